/-
  Seat b4896a: (*Register).VotingShares (6) and (*Register).Shares (8): the sums over the holders' row.
-/
import Derived.Test.YbulkcwjiLeaf
namespace Go.Proofs.Ybulkcwji
open Go.RowKit

/-- The holders, by their index. -/
structure Hd where
  ac : Nat → ByteArray
  nm : Nat → ByteArray
  sh : Nat → Int
  rl : Nat → ByteArray
  br : Nat → Int
  gr : Nat → ByteArray

/-- The n holders' cells lie in block g. -/
def HAt (w : World) (g n : Nat) (H : Hd) : Prop :=
  ∀ i, i < n → w.cell? ⟨g, i * 6, none⟩ = some (.string (H.ac i)) ∧ w.cell? ⟨g, i * 6 + 1, none⟩ = some (.string (H.nm i)) ∧ w.cell? ⟨g, i * 6 + 2, none⟩ = some (.int .i64 (H.sh i)) ∧
    w.cell? ⟨g, i * 6 + 3, none⟩ = some (.string (H.rl i)) ∧ w.cell? ⟨g, i * 6 + 4, none⟩ = some (.int .i64 (H.br i)) ∧ w.cell? ⟨g, i * 6 + 5, none⟩ = some (.string (H.gr i))

theorem HAt.below {w w' : World} {g n : Nat} {H : Hd} (h : HAt w g n H) {B : Nat} (hb : Below B w w') (hg : g < B) : HAt w' g n H := by
  intro i hi
  obtain ⟨h0, h1, h2, h3, h4, h5⟩ := h i hi
  exact ⟨(hb.cell (by exact hg)).trans h0, (hb.cell (by exact hg)).trans h1, (hb.cell (by exact hg)).trans h2, (hb.cell (by exact hg)).trans h3, (hb.cell (by exact hg)).trans h4, (hb.cell (by exact hg)).trans h5⟩

/-- The votes of the first k. -/
def votes (H : Hd) : Nat → Int
  | 0 => 0
  | k + 1 => wrap64 (votes H k + voteOf (H.rl k) (H.sh k) (H.br k))
/-- The shares of the first k. -/
def shares (H : Hd) : Nat → Int
  | 0 => 0
  | k + 1 => wrap64 (shares H k + H.sh k)

set_option maxHeartbeats 400000 in
theorem votes_zero (p : Nat) (ho : Option Addr) (cap : Nat) (H : Hd) (w : World) (hp : w.cell? ⟨p, 0, none⟩ = some (.slice ho 0 cap)) :
    Calls Yba.prog 6 #[.pointer (some ⟨p, 0, none⟩)] w fun e w' => e = .returned (.int .i64 (votes H 0)) ∧ Below w.heap.size w w' := by
  go_enter Yba.func6, Yba.ntmps6
  go_wp2
  refine wp_loop_rounds 1 ?_
  rw [rounds_succ]
  go_wp2
  go_ret
  exact ⟨rfl, Below.refl _ _⟩

set_option maxHeartbeats 400000 in
theorem votes_some (p g n cap : Nat) (H : Hd) (w : World) (hp : w.cell? ⟨p, 0, none⟩ = some (.slice (some ⟨g, 0, none⟩) n cap)) (hn : n ≤ 1024) (hg : g < w.heap.size) (hH : HAt w g n H) :
    Calls Yba.prog 6 #[.pointer (some ⟨p, 0, none⟩)] w fun e w' => e = .returned (.int .i64 (votes H n)) ∧ Below w.heap.size w w' := by
  go_enter Yba.func6, Yba.ntmps6
  go_wp2
  go_loopw [3, 11] (fun t i wr => ∃ k : Nat, k ≤ n ∧ i = .int .i64 k ∧ t = .int .i64 (votes H k) ∧ Below w.heap.size w wr) (fun _ i _ => n - (intOf i).toNat)
  case atStart => exact ⟨0, Nat.zero_le _, rfl, rfl, Below.refl _ _⟩
  case round =>
    obtain ⟨k, hk, rfl, rfl, hb⟩ := hrel
    by_cases hlt : k < n
    · obtain ⟨h0, h1, h2, h3, h4, h5⟩ := (hH.below hb hg) k hlt
      clear hH
      go_wp2_with (go_at_call 10; refine (vote_any _ _ _ _ _ _ _).mono ?_; rintro e w' ⟨rfl, hb'⟩)
      go_roundw
      case rel => exact ⟨k + 1, by omega, by go_num, rfl, (hb.alloc hb.size _).trans (hb'.mono (by have := hb.size; simp; omega))⟩
      case measure => simp [intOf]; omega
    · go_wp2
      go_ret
      have : k = n := by omega
      subst this
      exact ⟨rfl, hb⟩

set_option maxHeartbeats 400000 in
theorem shares_zero (p : Nat) (ho : Option Addr) (cap : Nat) (H : Hd) (w : World) (hp : w.cell? ⟨p, 0, none⟩ = some (.slice ho 0 cap)) :
    Calls Yba.prog 8 #[.pointer (some ⟨p, 0, none⟩)] w fun e w' => e = .returned (.int .i64 (shares H 0)) ∧ Below w.heap.size w w' := by
  go_enter Yba.func8, Yba.ntmps8
  go_wp2
  refine wp_loop_rounds 1 ?_
  rw [rounds_succ]
  go_wp2
  go_ret
  exact ⟨rfl, Below.refl _ _⟩

set_option maxHeartbeats 400000 in
theorem shares_some (p g n cap : Nat) (H : Hd) (w : World) (hp : w.cell? ⟨p, 0, none⟩ = some (.slice (some ⟨g, 0, none⟩) n cap)) (hn : n ≤ 1024) (hg : g < w.heap.size) (hH : HAt w g n H) :
    Calls Yba.prog 8 #[.pointer (some ⟨p, 0, none⟩)] w fun e w' => e = .returned (.int .i64 (shares H n)) ∧ Below w.heap.size w w' := by
  go_enter Yba.func8, Yba.ntmps8
  go_wp2
  go_loopw [3, 11] (fun t i wr => ∃ k : Nat, k ≤ n ∧ i = .int .i64 k ∧ t = .int .i64 (shares H k) ∧ Below w.heap.size w wr) (fun _ i _ => n - (intOf i).toNat)
  case atStart => exact ⟨0, Nat.zero_le _, rfl, rfl, Below.refl _ _⟩
  case round =>
    obtain ⟨k, hk, rfl, rfl, hb⟩ := hrel
    by_cases hlt : k < n
    · obtain ⟨h0, h1, h2, h3, h4, h5⟩ := (hH.below hb hg) k hlt
      clear hH
      go_wp2
      go_roundw
      case rel => exact ⟨k + 1, by omega, by go_num, rfl, hb.alloc hb.size _⟩
      case measure => simp [intOf]; omega
    · go_wp2
      go_ret
      have : k = n := by omega
      subst this
      exact ⟨rfl, hb⟩

/-- Where the register's holders lie: none; or n of them from the head of block g on. -/
def Held (w : World) (ho : Option Addr) (n : Nat) (H : Hd) : Prop := n = 0 ∨ ∃ g, ho = some ⟨g, 0, none⟩ ∧ g < w.heap.size ∧ HAt w g n H

theorem votes_any (p n cap : Nat) (ho : Option Addr) (H : Hd) (w : World) (hp : w.cell? ⟨p, 0, none⟩ = some (.slice ho n cap)) (hn : n ≤ 1024) (hH : Held w ho n H) :
    Calls Yba.prog 6 #[.pointer (some ⟨p, 0, none⟩)] w fun e w' => e = .returned (.int .i64 (votes H n)) ∧ Below w.heap.size w w' := by
  rcases hH with rfl | ⟨g, rfl, hg, hH⟩
  · exact votes_zero p ho cap H w hp
  · exact votes_some p g n cap H w hp hn hg hH
theorem shares_any (p n cap : Nat) (ho : Option Addr) (H : Hd) (w : World) (hp : w.cell? ⟨p, 0, none⟩ = some (.slice ho n cap)) (hn : n ≤ 1024) (hH : Held w ho n H) :
    Calls Yba.prog 8 #[.pointer (some ⟨p, 0, none⟩)] w fun e w' => e = .returned (.int .i64 (shares H n)) ∧ Below w.heap.size w w' := by
  rcases hH with rfl | ⟨g, rfl, hg, hH⟩
  · exact shares_zero p ho cap H w hp
  · exact shares_some p g n cap H w hp hn hg hH
theorem Held.below {w w' : World} {ho : Option Addr} {n : Nat} {H : Hd} (h : Held w ho n H) {B : Nat} (hb : Below B w w') (hB : w.heap.size ≤ B) : Held w' ho n H := by
  rcases h with h | ⟨g, h1, h2, h3⟩
  · exact .inl h
  · exact .inr ⟨g, h1, by have := hb.size; omega, h3.below hb (by omega)⟩

end Go.Proofs.Ybulkcwji
