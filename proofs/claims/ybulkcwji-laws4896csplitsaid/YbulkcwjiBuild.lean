/-
  Seat b4896a: zzs4896cbuild (5): the register out of the rows.
-/
import Derived.Test.YbulkcwjiSums
import Derived.Deep.RegionHeld3
import Derived.Deep.AppendLies
namespace Go.Proofs.Ybulkcwji
open Go.RowKit

/-- The drawn rows, by their index. -/
structure Rw where
  ac : Nat → ByteArray
  nm : Nat → ByteArray
  sh : Nat → Int
  br : Nat → Int
  ro : Nat → Int
  gr : Nat → ByteArray

/-- The n rows' cells lie in block b from off on. -/
def RAt (w : World) (b off n : Nat) (R : Rw) : Prop :=
  ∀ i, i < n → w.cell? ⟨b, off + i * 6, none⟩ = some (.string (R.ac i)) ∧ w.cell? ⟨b, off + i * 6 + 1, none⟩ = some (.string (R.nm i)) ∧ w.cell? ⟨b, off + i * 6 + 2, none⟩ = some (.int .i64 (R.sh i)) ∧
    w.cell? ⟨b, off + i * 6 + 3, none⟩ = some (.int .i64 (R.br i)) ∧ w.cell? ⟨b, off + i * 6 + 4, none⟩ = some (.int .u8 (R.ro i)) ∧ w.cell? ⟨b, off + i * 6 + 5, none⟩ = some (.string (R.gr i)) ∧ 0 ≤ R.ro i ∧ R.ro i ≤ 255

/-- The holders that the rows make. -/
def hd (R : Rw) : Hd := { ac := R.ac, nm := R.nm, sh := R.sh, rl := fun i => roleOf (R.ro i), br := R.br, gr := R.gr }

/-- One holder's cells. -/
def hc (R : Rw) (i : Nat) : List Value := [.string (R.ac i), .string (R.nm i), .int .i64 (R.sh i), .string (roleOf (R.ro i)), .int .i64 (R.br i), .string (R.gr i)]
/-- The first k holders' cells. -/
def hcs (R : Rw) : Nat → List Value
  | 0 => []
  | k + 1 => hcs R k ++ hc R k

theorem RAt.below {w w' : World} {b off n : Nat} {R : Rw} (h : RAt w b off n R) {B : Nat} (hb : Below B w w') (hg : b < B) : RAt w' b off n R := by
  intro i hi
  obtain ⟨h0, h1, h2, h3, h4, h5, h6⟩ := h i hi
  exact ⟨(hb.cell (by exact hg)).trans h0, (hb.cell (by exact hg)).trans h1, (hb.cell (by exact hg)).trans h2, (hb.cell (by exact hg)).trans h3, (hb.cell (by exact hg)).trans h4, (hb.cell (by exact hg)).trans h5, h6⟩

theorem Yba.info37 : (Yba.prog.info? 37).map (fun i => (i.zero, i.size, i.bytes)) = some (some (.agg #[.string ⟨#[]⟩, .string ⟨#[]⟩, .int .i64 0, .string ⟨#[]⟩, .int .i64 0, .string ⟨#[]⟩]), 6, 80) := by kernel_rfl

theorem heap_two (w : World) (A B : Obj) : ((w.alloc A).alloc B).heap[w.heap.size + 1]? = some B := by
  have := heap_alloc_new (w.alloc A) B
  simpa using this

theorem build_end {w wr : World} {v : Value} {n : Nat} {xs : List Value} (M1 M2 : Obj) (a b c : Value) (hown : wr.ownsRow w.heap.size 37 6 v n xs) (hb : Below w.heap.size w wr) :
    w.heap.size ≤ wr.heap.size + 2 ∧ wr.heap.size + 2 < (((wr.alloc M1).alloc M2).alloc (.cells #[v, a, b, c] 29)).heap.size ∧
    (((wr.alloc M1).alloc M2).alloc (.cells #[v, a, b, c] 29)).cell? ⟨wr.heap.size + 2, 0, none⟩ = some v ∧
    (((wr.alloc M1).alloc M2).alloc (.cells #[v, a, b, c] 29)).ownsRow w.heap.size 37 6 v n xs ∧ Below w.heap.size w (((wr.alloc M1).alloc M2).alloc (.cells #[v, a, b, c] 29)) := by
  have hs := hb.size
  refine ⟨by omega, by simp, ?_, ((hown.alloc _).alloc _).alloc _, ((hb.alloc hs _).alloc (by simp; omega) _).alloc (by simp; omega) _⟩
  have := heap_alloc_new ((wr.alloc M1).alloc M2) (.cells #[v, a, b, c] 29)
  simp only [World.size_alloc] at this
  exact (cell_of_row _ (wr.heap.size + 2) 0 _ 29 (0, 0) this).trans rfl

set_option maxHeartbeats 400000 in
theorem build_some (b off n cap : Nat) (R : Rw) (w : World) (hn : n ≤ 1024) (hbl : b < w.heap.size) (hR : RAt w b off n R) :
    Calls Yba.prog 5 #[.slice (some ⟨b, off, none⟩) n cap] w fun e w' => ∃ p v, e = .returned (.pointer (some ⟨p, 0, none⟩)) ∧ w.heap.size ≤ p ∧ p < w'.heap.size ∧ w'.cell? ⟨p, 0, none⟩ = some v ∧ w'.ownsRow w.heap.size 37 6 v n (hcs R n) ∧ Below w.heap.size w w' := by
  obtain ⟨i0, hi0, hz0, hz1, hz2⟩ := info_parts Yba.info37
  have hne := fun (w : World) => run_neq_slice_nil_any (P := Yba.prog) w 22 31 (some ⟨b, off, none⟩) n cap 0 0 Yba.underlying22
  have hmm := @run_makeMap Yba.prog
  go_enter Yba.func5, Yba.ntmps5
  go_wp2_with (at_make; refine wpList_make_own _ rfl _ _ 25 rfl w.heap.size 37 i0 _ 6 Yba.underlying25 hi0 hz0 hz1 .i64 .i64 _ n rfl rfl rfl (by rw [hz2]; omega) (by unfold maxLen; omega) (Nat.le_refl _) ?_; intro w1 hown1 hg1)
  go_loopw [3, 4] (fun v i wr => ∃ k : Nat, k ≤ n ∧ i = .int .i64 k ∧ wr.ownsRow w.heap.size 37 6 v k (hcs R k) ∧ Below w.heap.size w wr) (fun _ i _ => n - (intOf i).toNat)
  case atStart => exact ⟨0, Nat.zero_le _, rfl, hown1, (Below.refl _ _).grown hg1 (Nat.le_refl _) (by simp)⟩
  case round =>
    obtain ⟨k, hk, rfl, hown, hb⟩ := hrel
    by_cases hlt : k < n
    · obtain ⟨h0, h1, h2, h3, h4, h5, h6, h7⟩ := (hR.below hb hbl) k hlt
      have hsz := hb.size
      clear hR hown1 hg1
      go_wp2_with fail
      go_region_held3 (fun w' => w'.cell? ⟨wr.heap.size, 0, none⟩ = some (.string (R.ac k)) ∧ w'.cell? ⟨wr.heap.size, 1, none⟩ = some (.string (R.nm k)) ∧ w'.cell? ⟨wr.heap.size, 2, none⟩ = some (.int .i64 (R.sh k)) ∧ w'.cell? ⟨wr.heap.size, 3, none⟩ = some (.int .i64 (R.br k)) ∧ w'.cell? ⟨wr.heap.size, 4, none⟩ = some (.int .u8 (R.ro k)) ∧ w'.cell? ⟨wr.heap.size, 5, none⟩ = some (.string (R.gr k)))
        (first
          | go_keep
          | (go_split_ands; refine ⟨?_, ?_, ?_, ?_, ?_, ?_⟩ <;> (rw [hgrow.cell_far _ (by simp; omega) (by intro e; have := hown.lt _ e.symm; simp at this)]; assumption)))
        (first
          | (go_at_call 9; refine (role_any _ _ h6 h7).mono ?_; rintro e w' ⟨rfl, rfl⟩)
          | ((refine step_append_lies _ (by rfl) _ _ _ (by rfl) w.heap.size 37 i0 _ 6 80 Yba.underlying25 hi0 hz0 hz1 hz2 rfl (by omega) _ k (hcs R k) (by rfl) (((hown.alloc _).alloc _).drew) ⟨wr.heap.size + 1, 0, none⟩ 1 1 (hc R k) (by rfl) (by rfl) (World.news_of_block (cs := (hc R k).toArray) (t := 37) (fr := (0, 0)) (heap_two wr _ _)) (by simp [Value.oneCell', hc]) (by omega) (by unfold maxLen; omega) (by omega) (by simp; omega) (wr.heap.size + 2) (by simp) ?_; intro gg cap w1 hown1 hgrow hat hgl)))
      go_wp2
      go_roundw
      case rel =>
        refine ⟨k + 1, by omega, by go_num, hown1, ((hb.alloc hsz _).alloc (by simp; omega) _).drew.grown hgrow (by simp; omega) ?_⟩
        intro j hj
        exact (hown.lt j hj).1
      case measure => simp [intOf]; omega
    · obtain rfl : k = n := by omega
      have hsz := hb.size
      have hown' := hown
      clear hR hown1 hg1
      rcases hown.2 with ⟨hv, hv0⟩ | ⟨g, cap', cur, hv, hg, _⟩
      · subst hv
        clear hown
        go_wp2
        go_ret
        exact ⟨_, _, rfl, build_end _ _ _ _ _ hown' hb⟩
      · subst hv
        clear hown
        go_wp2
        go_ret
        exact ⟨_, _, rfl, build_end _ _ _ _ _ hown' hb⟩

set_option maxHeartbeats 400000 in
theorem build_nil (R : Rw) (w : World) :
    Calls Yba.prog 5 #[.slice none 0 0] w fun e w' => ∃ p v, e = .returned (.pointer (some ⟨p, 0, none⟩)) ∧ w.heap.size ≤ p ∧ p < w'.heap.size ∧ w'.cell? ⟨p, 0, none⟩ = some v ∧ w'.ownsRow w.heap.size 37 6 v 0 (hcs R 0) ∧ Below w.heap.size w w' := by
  have hne := fun (w : World) => run_neq_slice_nil_any (P := Yba.prog) w 22 31 none 0 0 0 0 Yba.underlying22
  have hmm := @run_makeMap Yba.prog
  go_enter Yba.func5, Yba.ntmps5
  go_wp2
  refine wp_loop_rounds 1 ?_
  rw [rounds_succ]
  go_wp2
  go_ret
  exact ⟨_, _, rfl, build_end _ _ _ _ _ (World.ownsRow_nil _ _ _ _) (Below.refl _ _)⟩
end Go.Proofs.Ybulkcwji
