/-
  Seat b4896a: LawS4896CModel (3): the walk.
-/
import Derived.Test.YbulkcwjiSame
namespace Go.Proofs.Ybulkcwji
open Go.RowKit

/-! ### The plain law -/
/-- What the law's own loop reckons over the first k rows. -/
def want (R : Rw) : Nat → Int
  | 0 => 0
  | k + 1 => if R.ro k % 5 = 2 then want R k else wrap64 (wrap64 (want R k + R.sh k) - R.br k)

theorem want_small (R : Rw) : ∀ k, wrap64 (want R k) = want R k
  | 0 => by show wrap64 0 = 0; unfold wrap64; decide
  | k + 1 => by
    unfold want
    split
    · exact want_small R k
    · unfold wrap64; omega

theorem votes_want (R : Rw) : ∀ k, votes (hd R) k = want R k
  | 0 => rfl
  | k + 1 => by
    unfold votes want
    rw [votes_want R k]
    show wrap64 (want R k + voteOf (roleOf (R.ro k)) (R.sh k) (R.br k)) = _
    unfold voteOf
    rw [isT_roleOf]
    by_cases h : R.ro k % 5 = 2
    · simp [h, want_small]
    · rw [if_neg (by simpa using h), if_neg h]
      unfold wrap64; omega

theorem made_row {w : World} {B g n c : Nat} {xs : List Value} (h : w.ownsRow B 37 6 (.slice (some ⟨g, 0, none⟩) n c) n xs) (hc : c = n) : ∃ cur, w.heap[g]? = some (.cells cur 37 (0, 0)) ∧ cur.size = n * 6 := by
  subst hc
  rcases h.2 with ⟨h, _⟩ | ⟨g', cap, cur, hv, _, hh, _, _, hs, _⟩
  · simp at h
  · simp at hv
    obtain ⟨rfl, rfl⟩ := hv
    exact ⟨cur, hh, hs⟩

set_option maxHeartbeats 400000 in
theorem model_big (ao : Option Addr) (n cap : Nat) (w : World) (hn : 1024 < n) :
    Calls Yba.prog 3 #[.slice ao n cap] w fun e w' => e = .returned (.bool true) ∧ Below w.heap.size w w' := by
  go_enter Yba.func3, Yba.ntmps3
  go_wp2
  go_ret
  exact ⟨rfl, Below.refl _ _⟩

theorem src_cells {w w1 w2 : World} {ho : Option Addr} {n : Nat} {R : Rw} (hb : Below w1.heap.size w1 w2)
    (h : n ≠ 0 → ∃ g, ho = some ⟨g, 0, none⟩ ∧ w.heap.size ≤ g ∧ g < w1.heap.size ∧ ∀ j, j < n * 6 → w1.cell? ⟨g, j, none⟩ = (hcs R n)[j]?) :
    n ≠ 0 → ∃ ad, ho = some ad ∧ ∀ j v, (hcs R n)[j]? = some v → w2.cell? (ad.add j) = some v := by
  intro hn
  obtain ⟨g, rfl, _, hg, hc⟩ := h hn
  refine ⟨_, rfl, fun j v hj => ?_⟩
  have hlt : j < n * 6 := by
    have := (List.getElem?_eq_some_iff.1 hj).1
    rwa [hcs_length] at this
  have hadd : (⟨g, 0, none⟩ : Addr).add j = ⟨g, j, none⟩ := by unfold Addr.add; split <;> simp_all
  rw [hadd, hb.cell (by exact hg), hc j hlt, hj]

theorem held_copied {w : World} {g n : Nat} {R : Rw} (h : w.heap[g]? = some (.cells (hcs R n).toArray 37 (0, 0))) : Held w (some ⟨g, 0, none⟩) n (hd R) := by
  refine .inr ⟨g, rfl, (Array.getElem?_eq_some_iff.1 h).1, hat_of_cells fun j hj => ?_⟩
  rw [cell_of_row w g j _ 37 (0, 0) h]
  simp

/-- 'copy(before, reg.Holders)': the new row holds the holders; nothing before it has turned. -/
theorem copy_ex {w w1 w2 : World} {ho : Option Addr} {n c : Nat} {R : Rw} (hb : Below w1.heap.size w1 w2)
    (h : n ≠ 0 → ∃ g, ho = some ⟨g, 0, none⟩ ∧ w.heap.size ≤ g ∧ g < w1.heap.size ∧ ∀ j, j < n * 6 → w1.cell? ⟨g, j, none⟩ = (hcs R n)[j]?) {xs : List Value}
    (hm : w2.ownsRow w1.heap.size 37 6 (.slice (some ⟨w1.heap.size, 0, none⟩) n n) n xs) :
    ∃ w3, (Builtin.copy_ #[25, 25] 3 #[.slice (some ⟨w1.heap.size, 0, none⟩) n n, .slice ho n c]).run Yba.prog w2 = .ok (goInt n) w3 ∧ Held w3 (some ⟨w1.heap.size, 0, none⟩) n (hd R) ∧ Below w1.heap.size w1 w3 := by
  obtain ⟨cur, hcur, hcz⟩ := made_row hm rfl
  exact ⟨_, run_copy_six w2 n n c w1.heap.size ho 3 cur (hcs R n) hcur hcz (hcs_length R n) (hcs_oneCell R n) (src_cells hb h), held_copied (setRow_heap w2 _ cur _ 37 _ hcur), below_setRow hb (Nat.le_refl _) _⟩

theorem rows_at {w : World} {ao : Option Addr} {n cap k : Nat} {R : Rw} (h : RowsIn w ao n cap R) (hk : k < n) : ∃ b off, ao = some ⟨b, off, none⟩ ∧ b < w.heap.size ∧ RAt w b off n R := by
  rcases h with ⟨h, _⟩ | h
  · omega
  · exact h

theorem want_t {R : Rw} {k : Nat} (h : (R.ro k % 5 == 2) = true) : want R (k + 1) = want R k := by
  have : R.ro k % 5 = 2 := by simpa using h
  simp [want, this]
theorem want_f {R : Rw} {k : Nat} (h : (R.ro k % 5 == 2) = false) : want R (k + 1) = wrap64 (wrap64 (want R k + R.sh k) - R.br k) := by
  have : ¬ R.ro k % 5 = 2 := by simpa using h
  simp [want, this]

theorem votes_want_any (p n cap : Nat) (ho : Option Addr) (R : Rw) (w : World) (hp : w.cell? ⟨p, 0, none⟩ = some (.slice ho n cap)) (hn : n ≤ 1024) (hH : Held w ho n (hd R)) :
    Calls Yba.prog 6 #[.pointer (some ⟨p, 0, none⟩)] w fun e w' => e = .returned (.int .i64 (want R n)) ∧ Below w.heap.size w w' := by
  have := votes_any p n cap ho (hd R) w hp hn hH
  rwa [votes_want] at this

set_option maxHeartbeats 1000000 in
theorem model_small (ao : Option Addr) (n cap : Nat) (R : Rw) (w : World) (hn : n ≤ 1024) (hR : RowsIn w ao n cap R) :
    Calls Yba.prog 3 #[.slice ao n cap] w fun e w' => e = .returned (.bool true) ∧ Below w.heap.size w w' := by
  obtain ⟨i0, hi0, hz0, hz1, hz2⟩ := info_parts Yba.info37
  have hRI : Hid (RowsIn w ao n cap R) := hR
  clear hR
  go_enter Yba.func3, Yba.ntmps3
  go_wp2_with (first
    | (go_at_call 5; refine (build_any _ _ _ R _ hn hRI.out).mono ?_; rintro e w1 ⟨p, ho, c, rfl, hp0, hp1, hpc, hH, hsrc, hb1⟩; have HS := hsrc; clear hsrc)
    | (at_make; refine wpList_make_full _ rfl _ _ 25 rfl w1.heap.size 37 i0 _ 6 Yba.underlying25 hi0 hz0 hz1 .i64 .i64 _ _ n rfl rfl rfl rfl (by rw [hz2]; omega) (by unfold maxLen; omega) (Nat.le_refl _) ?_; intro w2 hown2 hg2; have hb2 := (Below.refl w1.heap.size w1).grown hg2 (Nat.le_refl _) (by simp); have hpc2 := (hb2.cell (p := ⟨p, 0, none⟩) hp1).trans hpc; obtain ⟨w3, hcp, hH3, hb3⟩ := copy_ex (c := c) hb2 HS hown2; clear hown2 hg2 hb2 HS)
    | fail)
  go_loop [5, 6] (fun t i => ∃ k : Nat, k ≤ n ∧ i = .int .i64 k ∧ t = .int .i64 (want R k)) (fun _ i => n - (intOf i).toNat)
  case atStart => exact ⟨0, Nat.zero_le _, rfl, rfl⟩
  case round =>
    obtain ⟨k, hk, rfl, rfl⟩ := hrel
    have hbw : Below w.heap.size w w3 := hb1.trans (hb3.mono (by have := hb1.size; omega))
    by_cases hlt : k < n
    · obtain ⟨b, off, rfl, hbl, hRA⟩ := rows_at hRI.out hlt
      obtain ⟨h0, h1, h2, h3, h4, h5, h6, h7⟩ := (hRA.below hbw hbl) k hlt
      clear hRA hcp hH hH3
      go_wp2
      · go_round
        case rel => exact ⟨k + 1, by omega, by go_num, by rw [want_t ‹_›]⟩
        case measure => simp [intOf]; omega
      · go_round
        case rel => exact ⟨k + 1, by omega, by go_num, by rw [want_f ‹_›]⟩
        case measure => simp [intOf]; omega
    · obtain rfl : k = n := by omega
      have hH3' := hH.below hb3 (Nat.le_refl _)
      have hpc3 := (hb3.cell (p := ⟨p, 0, none⟩) hp1).trans hpc
      clear hcp hpc2 hpc hH hRI
      go_wp2_with (first
        | (go_at_call 6; refine (votes_want_any p k c ho R _ hpc3 hn hH3').mono ?_; rintro e w4 ⟨rfl, hb4⟩; have hpc4 := (hb4.cell (p := ⟨p, 0, none⟩) (by have := hb3.size; show p < _; omega)).trans hpc3)
        | (go_at_call 7; refine (same_any k _ _ _ _ (hd R) _ hn (hH3.below hb4 (Nat.le_refl _)) (hH3'.below hb4 (Nat.le_refl _))).mono ?_; rintro e w5 ⟨rfl, hb5⟩))
      go_ret
      exact ⟨rfl, (hbw.trans (hb4.mono hbw.size)).trans (hb5.mono (Nat.le_trans hbw.size hb4.size))⟩

theorem model_any (ao : Option Addr) (n cap : Nat) (R : Rw) (w : World) (hR : RowsIn w ao n cap R) :
    Calls Yba.prog 3 #[.slice ao n cap] w fun e w' => e = .returned (.bool true) ∧ Below w.heap.size w w' := by
  by_cases hn : n ≤ 1024
  · exact model_small ao n cap R w hn hR
  · exact model_big ao n cap w (by omega)
end Go.Proofs.Ybulkcwji
