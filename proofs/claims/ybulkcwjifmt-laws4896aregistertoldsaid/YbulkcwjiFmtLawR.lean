/-
  Seat b4896aF: LawS4896ARegister (3): the walk.
-/
import Derived.Test.YbulkcwjiFmtLaw
import Derived.Test.YbulkcwjiFmtChkR
import Derived.Test.YbulkcwjiFmtMdlR
namespace Go.Proofs.YbulkcwjiFmt
open Go.RowKit Go.Extern.Stop Go.Stop Go.Extern

set_option maxHeartbeats 1000000 in
theorem register_any (F : Interp) (ao aa : Option Addr) (n cap an ac : Nat) (P : Pr) (A : Ad) (f : Nat → ByteArray) (w : World) (hF : F.answers w.tape) (hP : PropsIn w ao n P A) (hA : StrsAt w aa an f) :
    Calls Ybaf.prog 3 #[.slice ao n cap, .slice aa an ac] w fun e w' => e = .returned (.bool true) ∧ Below w.heap.size w w' := by
  have HF := hide hF
  have HP := hide hP
  have HA := hide hA
  clear hF hP hA
  have bel0 := fun X => (Below.refl w.heap.size w).alloc (Nat.le_refl _) X
  go_enter Ybaf.func3, Ybaf.ntmps3
  go_wp2_with fail
  refine (toobig_any ao n cap P A _ (HP.out.below (bel0 _) (Nat.le_refl _))).mono ?_
  rintro e w1 ⟨he, hb1⟩
  have hsz1 := hb1.size
  have hab : w1.cell? ⟨w.heap.size, 0, none⟩ = some (.slice aa an ac) := bcell hb1 (by simp) (by simp)
  rcases he with rfl | ⟨rfl, hbnd⟩
  · go_wp2
    go_ret
    exact ⟨rfl, (bel0 _).trans (hb1.mono (by simp))⟩
  · by_cases han : an ≤ 256
    · have HN := hide hbnd
      have hn : n ≤ 256 := hbnd.1
      clear hbnd
      have hw1 : Below w.heap.size w w1 := (bel0 _).trans (hb1.mono (by simp))
      have hsz : w.heap.size < w1.heap.size := by simp at hsz1; omega
      go_wp2_with fail
      refine (build_any ao n cap P A w1 hn (HP.out.below hw1 (Nat.le_refl _))).mono ?_
      rintro e w2 ⟨rfl, hM, hb2⟩
      have hsz2 := hb2.size
      have hab2 := bcell hb2 hab hsz
      have hw2 : Below w.heap.size w w2 := hw1.trans (hb2.mono (by omega))
      have belw := fun X => ((Below.refl w2.heap.size w2).alloc (Nat.le_refl _) X)
      have HM := hide hM
      clear hM hb1 hsz1 hab bel0
      go_wp2_with fail
      refine (check_7 F (LogAt (w2.heap.size + 1) w2.heap.size) (fun _ a => among f a an) w1.heap.size n w2.heap.size w.heap.size P A w2 _ (by show F.answers w2.tape; rw [hw2.tape]; exact HF.out) HN.out HM.out (HP.out.below hw2 (Nat.le_refl _)).2 (belw _) (Nat.le_refl _) (by simp) ?hI0 (fun l x y h1 h2 => h1.below h2)
        (fun l a x h1 h2 h3 => on7 w2.heap.size w.heap.size an ac aa f l a w2 x h1 h2 (bcell h3 hab2 (by omega)) (by omega) han (HA.out.below hw2 (Nat.le_refl _)) h3 (Nat.le_refl _))).mono ?_
      case hI0 => exact ⟨.slice none 0 0, heap_alloc_new _ _, World.ownsRow_nil _ _ _ _⟩
      rintro e w5 ⟨log, hI5, hb5, hend⟩
      have hw5' : Below w2.heap.size w2 w5 := (belw _).trans hb5
      have hw5 : Below w.heap.size w w5 := hw2.trans (hw5'.mono (by omega))
      have hab5 := bcell hw5' hab2 (by omega)
      have HA5 := hide (HA.out.below hw5 (Nat.le_refl _))
      have H5 := hide hI5
      clear hI5 hb5 belw
      rcases hend with ⟨rfl, hE5⟩ | ⟨⟨u, x, rfl⟩, hE5⟩
      all_goals
        have HE5 := hide hE5
        clear hE5
        go_wp2_with fail
        refine (model_11 (fun _ a => among f a an) ao n cap w.heap.size P A w5 HN.out (HP.out.below hw5 (Nat.le_refl _)) (fun j a x hx => on11 w.heap.size an ac aa f j a x (bcell hx hab5 (by have := hw5.size; have := hw5'.size; omega)) han (HA5.out.below hx (Nat.le_refl _)))).mono ?_
        rintro e w6 ⟨log2, ok2, vo, vc, rfl, hO6, hE6, hb6⟩
        obtain ⟨rfl, rfl⟩ := ends_one HE5.out hE6
        have hI6 := H5.out.below hb6
        obtain ⟨lo, lc, hlc, hlo⟩ := hI6.owns
        have hlen : log.length ≤ 131072 := Nat.le_trans (ends_length hE6) (pre_length_all HN.out)
        have hs1 := strs_of_owns hlo
        have hs2 := strs_of_owns hO6
        have HS1 := hide hs1
        have HS2 := hide hs2
        clear hs1 hs2 hO6 hlo hI6 hE6 hab5 hab2
        go_wp2_with (go_at_call 12; refine (eq_any _ _ _ _ _ (nth log) _ hlen HS1.out HS2.out).mono ?_; rintro e w7 ⟨rfl, hb7⟩)
        go_ret
        exact ⟨rfl, (hw5.trans (hb6.mono hw5.size)).trans (hb7.mono (Nat.le_trans hw5.size hb6.size))⟩
    · go_wp2
      go_ret
      exact ⟨rfl, (bel0 _).trans (hb1.mono (by simp))⟩
end Go.Proofs.YbulkcwjiFmt
