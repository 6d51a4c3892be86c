/-
  Seat b4896a: zzs4896csame (7); 'copy' of rows of six cells; from 'ownsRow' to the holders.
-/
import Derived.Test.YbulkcwjiBuild
import Derived.Laws.CopyOwn
import Derived.Deep.QuietTactic
import Derived.BigQuiet
namespace Go.Proofs.Ybulkcwji
open Go.RowKit

theorem hcs_length (R : Rw) : ∀ k, (hcs R k).length = k * 6
  | 0 => rfl
  | k + 1 => by simp [hcs, hcs_length R k, hc]; omega

theorem hcs_at (R : Rw) : ∀ (n i j : Nat), i < n → j < 6 → (hcs R n)[i * 6 + j]? = (hc R i)[j]?
  | 0, _, _, h, _ => absurd h (Nat.not_lt_zero _)
  | n + 1, i, j, h, hj => by
    unfold hcs
    by_cases hin : i < n
    · rw [List.getElem?_append_left (by rw [hcs_length]; omega)]
      exact hcs_at R n i j hin hj
    · obtain rfl : i = n := by omega
      rw [List.getElem?_append_right (by rw [hcs_length]; omega), hcs_length]
      congr 1
      omega

theorem hat_of_cells {w : World} {g n : Nat} {R : Rw} (h : ∀ j, j < n * 6 → w.cell? ⟨g, j, none⟩ = (hcs R n)[j]?) : HAt w g n (hd R) := by
  intro i hi
  have e : ∀ j, j < 6 → w.cell? ⟨g, i * 6 + j, none⟩ = (hc R i)[j]? := fun j hj => by
    rw [h _ (by omega), hcs_at R n i j hi hj]
  exact ⟨e 0 (by omega), e 1 (by omega), e 2 (by omega), e 3 (by omega), e 4 (by omega), e 5 (by omega)⟩

theorem held_of_owns {w : World} {B n : Nat} {v : Value} {R : Rw} (h : w.ownsRow B 37 6 v n (hcs R n)) : ∃ ho cap, v = .slice ho n cap ∧ Held w ho n (hd R) ∧ (n ≠ 0 → ∃ g, ho = some ⟨g, 0, none⟩ ∧ B ≤ g ∧ g < w.heap.size ∧ ∀ j, j < n * 6 → w.cell? ⟨g, j, none⟩ = (hcs R n)[j]?) := by
  have h' := h
  rcases h.2 with ⟨rfl, rfl⟩ | ⟨g, cap, cur, rfl, hg, hh, _⟩
  · exact ⟨none, 0, rfl, .inl rfl, fun h => absurd rfl h⟩
  · have hlt : g < w.heap.size := (h'.lt g rfl).2
    exact ⟨_, cap, rfl, .inr ⟨g, rfl, hlt, hat_of_cells fun j hj => h'.cellAt j hj⟩, fun _ => ⟨g, rfl, hg, hlt, fun j hj => h'.cellAt j hj⟩⟩

/-- 'copy' between rows of six-cell elements, of one length: the whole row is laid over. -/
theorem run_copy_six (w : World) (n c c' g : Nat) (ho : Option Addr) (ty : TypeId) (cur : Array Value) (cs : List Value)
    (hg : w.heap[g]? = some (.cells cur 37 (0, 0))) (hcur : cur.size = n * 6) (hl : cs.length = n * 6) (h1 : ∀ v ∈ cs, v.oneCell' = true)
    (hsrc : n ≠ 0 → ∃ ad, ho = some ad ∧ ∀ j v, cs[j]? = some v → w.cell? (ad.add j) = some v) :
    (Builtin.copy_ #[25, 25] ty #[.slice (some ⟨g, 0, none⟩) n c, .slice ho n c']).run Yba.prog w = .ok (goInt n) (w.setRow g cs.toArray) := by
  obtain ⟨i0, hi0, hz0, hz1, hz2⟩ := info_parts Yba.info37
  have hst := run_storeCells_at Yba.prog g 0 37 cs 0 cur w hg (by omega) h1
  simp only [Nat.zero_add, List.take_zero, List.nil_append, Nat.add_zero] at hst
  rw [List.drop_eq_nil_of_le (by rw [hl]; simp; omega), List.append_nil] at hst
  by_cases h0 : n = 0
  · subst h0
    obtain rfl : cs = [] := List.eq_nil_of_length_eq_zero (by omega)
    have hl0 : ∀ (x : Addr), (loadCells x 0).run Yba.prog w = .ok #[] w := fun x => by simpa using run_loadCells_list (P := Yba.prog) w x [] (by simp)
    cases ho <;> simp [Builtin.copy_, run_underlying Yba.underlying25, Builtin.lenOf, Builtin.firstCells, sizeOf, typeInfo, hi0, hl0, hst]
  · obtain ⟨ad, rfl, hs⟩ := hsrc h0
    have hld := run_loadCells_list (P := Yba.prog) w ad cs hs
    rw [hl] at hld
    simp [Builtin.copy_, run_underlying Yba.underlying25, Builtin.lenOf, Builtin.firstCells, sizeOf, typeInfo, hi0, hz1, hld, hst]

set_option maxHeartbeats 400000 in
theorem same_some (g g' n c c' : Nat) (H : Hd) (w : World) (hn : n ≤ 1024) (h1 : HAt w g n H) (h2 : HAt w g' n H) :
    Calls Yba.prog 7 #[.slice (some ⟨g, 0, none⟩) n c, .slice (some ⟨g', 0, none⟩) n c'] w fun e w' => e = .returned (.bool true) ∧ Below w.heap.size w w' := by
  go_enter Yba.func7, Yba.ntmps7
  go_wp2
  go_loopw [5] (fun i wr => ∃ k : Nat, k ≤ n ∧ i = .int .i64 k ∧ ∃ m, wr = w.drewN m) (fun i _ => n - (intOf i).toNat)
  case atStart => exact ⟨0, Nat.zero_le _, rfl, 0, rfl⟩
  case round =>
    obtain ⟨k, hk, rfl, m, rfl⟩ := hrel
    by_cases hlt : k < n
    · obtain ⟨a0, a1, a2, a3, a4, a5⟩ := h1 k hlt
      obtain ⟨b0, b1, b2, b3, b4, b5⟩ := h2 k hlt
      have hi0 : (0 : Int) ≤ (k : Int) := Int.natCast_nonneg _
      have hi1 : (k : Int) < (n : Int) := by omega
      clear h1 h2
      go_wp2_with fail
      go_quiet (fail)
      go_wp2
      go_roundw
      case rel => exact ⟨k + 1, by omega, by go_num, m + nq, by simp⟩
      case measure => simp [intOf]; omega
    · go_wp2
      go_ret
      exact ⟨rfl, below_drewN (Below.refl _ _) _⟩

set_option maxHeartbeats 400000 in
theorem same_zero (c c' : Nat) (a a' : Option Addr) (w : World) :
    Calls Yba.prog 7 #[.slice a 0 c, .slice a' 0 c'] w fun e w' => e = .returned (.bool true) ∧ Below w.heap.size w w' := by
  go_enter Yba.func7, Yba.ntmps7
  go_wp2
  refine wp_loop_rounds 1 ?_
  rw [rounds_succ]
  go_wp2
  go_ret
  exact ⟨rfl, Below.refl _ _⟩

theorem same_any (n c c' : Nat) (a a' : Option Addr) (H : Hd) (w : World) (hn : n ≤ 1024) (h1 : Held w a n H) (h2 : Held w a' n H) :
    Calls Yba.prog 7 #[.slice a n c, .slice a' n c'] w fun e w' => e = .returned (.bool true) ∧ Below w.heap.size w w' := by
  rcases h1 with rfl | ⟨g, rfl, _, h1⟩
  · exact same_zero c c' a a' w
  · rcases h2 with rfl | ⟨g', rfl, _, h2⟩
    · exact same_zero c c' _ a' w
    · exact same_some g g' n c c' H w hn h1 h2

/-- The rows that came in: none of them (nil, or an empty slice); or n of them in a block of the old memory. -/
def RowsIn (w : World) (ao : Option Addr) (n cap : Nat) (R : Rw) : Prop := (n = 0 ∧ (ao = none → cap = 0)) ∨ ∃ b off, ao = some ⟨b, off, none⟩ ∧ b < w.heap.size ∧ RAt w b off n R

set_option maxHeartbeats 400000 in
theorem build_empty (ad : Addr) (cap : Nat) (R : Rw) (w : World) :
    Calls Yba.prog 5 #[.slice (some ad) 0 cap] w fun e w' => ∃ p v, e = .returned (.pointer (some ⟨p, 0, none⟩)) ∧ w.heap.size ≤ p ∧ p < w'.heap.size ∧ w'.cell? ⟨p, 0, none⟩ = some v ∧ w'.ownsRow w.heap.size 37 6 v 0 (hcs R 0) ∧ Below w.heap.size w w' := by
  obtain ⟨i0, hi0, hz0, hz1, hz2⟩ := info_parts Yba.info37
  have hne := fun (w : World) => run_neq_slice_nil_any (P := Yba.prog) w 22 31 (some ad) 0 cap 0 0 Yba.underlying22
  have hmm := @run_makeMap Yba.prog
  go_enter Yba.func5, Yba.ntmps5
  go_wp2_with (at_make; refine wpList_make_own _ rfl _ _ 25 rfl w.heap.size 37 i0 _ 6 Yba.underlying25 hi0 hz0 hz1 .i64 .i64 _ 0 rfl rfl rfl (by rw [hz2]; omega) (by unfold maxLen; omega) (Nat.le_refl _) ?_; intro w1 hown1 hg1)
  refine wp_loop_rounds 1 ?_
  rw [rounds_succ]
  go_wp2
  go_ret
  exact ⟨_, _, rfl, build_end _ _ _ _ _ hown1 ((Below.refl _ _).grown hg1 (Nat.le_refl _) (by simp))⟩

/-- zzs4896cbuild, whatever the rows (up to 1024 of them). -/
theorem build_any (ao : Option Addr) (n cap : Nat) (R : Rw) (w : World) (hn : n ≤ 1024) (hR : RowsIn w ao n cap R) :
    Calls Yba.prog 5 #[.slice ao n cap] w fun e w' => ∃ p ho c, e = .returned (.pointer (some ⟨p, 0, none⟩)) ∧ w.heap.size ≤ p ∧ p < w'.heap.size ∧ w'.cell? ⟨p, 0, none⟩ = some (.slice ho n c) ∧ Held w' ho n (hd R) ∧
      (n ≠ 0 → ∃ g, ho = some ⟨g, 0, none⟩ ∧ w.heap.size ≤ g ∧ g < w'.heap.size ∧ ∀ j, j < n * 6 → w'.cell? ⟨g, j, none⟩ = (hcs R n)[j]?) ∧ Below w.heap.size w w' := by
  have fin : ∀ (e : Ending) (w' : World), (∃ p v, e = .returned (.pointer (some ⟨p, 0, none⟩)) ∧ w.heap.size ≤ p ∧ p < w'.heap.size ∧ w'.cell? ⟨p, 0, none⟩ = some v ∧ w'.ownsRow w.heap.size 37 6 v n (hcs R n) ∧ Below w.heap.size w w') →
      ∃ p ho c, e = .returned (.pointer (some ⟨p, 0, none⟩)) ∧ w.heap.size ≤ p ∧ p < w'.heap.size ∧ w'.cell? ⟨p, 0, none⟩ = some (.slice ho n c) ∧ Held w' ho n (hd R) ∧
      (n ≠ 0 → ∃ g, ho = some ⟨g, 0, none⟩ ∧ w.heap.size ≤ g ∧ g < w'.heap.size ∧ ∀ j, j < n * 6 → w'.cell? ⟨g, j, none⟩ = (hcs R n)[j]?) ∧ Below w.heap.size w w' := by
    rintro e w' ⟨p, v, he, h1, h2, h3, h4, h5⟩
    obtain ⟨ho, c, rfl, h6, h7⟩ := held_of_owns h4
    exact ⟨p, ho, c, he, h1, h2, h3, h6, h7, h5⟩
  rcases hR with ⟨rfl, hc⟩ | ⟨b, off, rfl, hb, hR⟩
  · cases ao with
    | none => obtain rfl := hc rfl; exact (build_nil R w).mono fin
    | some ad => exact (build_empty ad cap R w).mono fin
  · exact (build_some b off n cap R w hn hb hR).mono fin

/-- The cells of the holders are one cell each. -/
theorem hcs_oneCell (R : Rw) : ∀ k, ∀ v ∈ hcs R k, v.oneCell' = true
  | 0, v, h => by simp [hcs] at h
  | k + 1, v, h => by
    rcases List.mem_append.1 h with h | h
    · exact hcs_oneCell R k v h
    · simp [hc] at h
      rcases h with rfl | rfl | rfl | rfl | rfl | rfl <;> rfl
end Go.Proofs.Ybulkcwji
