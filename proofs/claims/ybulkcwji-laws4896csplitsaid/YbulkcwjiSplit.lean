/-
  Seat b4896a: LawS4896CSplit (4): the plain law and the walk.
-/
import Derived.Test.YbulkcwjiSame
namespace Go.Proofs.Ybulkcwji
open Go.RowKit

/-! ### The plain law -/
def tre (H : Hd) : Nat → Int
  | 0 => 0
  | k + 1 => if isT (H.rl k) = true then wrap64 (tre H k + H.sh k) else tre H k
def bar (H : Hd) : Nat → Int
  | 0 => 0
  | k + 1 => if isT (H.rl k) = true then bar H k else wrap64 (bar H k + H.br k)

theorem split_step_t (v s t b x : Int) (h : v = wrap64 (wrap64 (s - t) - b)) : wrap64 (v + 0) = wrap64 (wrap64 (wrap64 (s + x) - wrap64 (t + x)) - b) := by
  subst h; unfold wrap64; omega
theorem split_step_f (v s t b x y : Int) (h : v = wrap64 (wrap64 (s - t) - b)) : wrap64 (v + wrap64 (x - y)) = wrap64 (wrap64 (wrap64 (s + x) - t) - wrap64 (b + y)) := by
  subst h; unfold wrap64; omega

theorem split_plain (H : Hd) : ∀ k, votes H k = wrap64 (wrap64 (shares H k - tre H k) - bar H k)
  | 0 => by show (0 : Int) = wrap64 (wrap64 (0 - 0) - 0); unfold wrap64; decide
  | k + 1 => by
    have ih := split_plain H k
    unfold votes shares tre bar voteOf
    by_cases h : isT (H.rl k) = true
    · rw [if_pos h, if_pos h, if_pos h]
      exact split_step_t _ _ _ _ _ ih
    · rw [if_neg h, if_neg h, if_neg h]
      exact split_step_f _ _ _ _ _ _ ih

theorem tre_t {H : Hd} {k : Nat} (h : ((H.rl k).toList == [116, 114, 101, 97, 115, 117, 114, 121]) = true) : tre H (k + 1) = wrap64 (tre H k + H.sh k) ∧ bar H (k + 1) = bar H k := by
  have : isT (H.rl k) = true := h
  exact ⟨by rw [tre, if_pos this], by rw [bar, if_pos this]⟩
theorem tre_f {H : Hd} {k : Nat} (h : ((H.rl k).toList == [116, 114, 101, 97, 115, 117, 114, 121]) = false) : tre H (k + 1) = tre H k ∧ bar H (k + 1) = wrap64 (bar H k + H.br k) := by
  have : ¬ isT (H.rl k) = true := by unfold isT; rw [h]; decide
  exact ⟨by rw [tre, if_neg this], by rw [bar, if_neg this]⟩

set_option maxHeartbeats 400000 in
theorem split_big (ao : Option Addr) (n cap : Nat) (w : World) (hn : 1024 < n) :
    Calls Yba.prog 4 #[.slice ao n cap] w fun e w' => e = .returned (.bool true) ∧ Below w.heap.size w w' := by
  go_enter Yba.func4, Yba.ntmps4
  go_wp2
  go_ret
  exact ⟨rfl, Below.refl _ _⟩

theorem held_at {w : World} {ho : Option Addr} {n k : Nat} {H : Hd} (h : Held w ho n H) (hk : k < n) : ∃ g, ho = some ⟨g, 0, none⟩ ∧ g < w.heap.size ∧ HAt w g n H := by
  rcases h with h | h
  · omega
  · exact h

set_option maxHeartbeats 1000000 in
theorem split_small (ao : Option Addr) (n cap : Nat) (R : Rw) (w : World) (hn : n ≤ 1024) (hR : RowsIn w ao n cap R) :
    Calls Yba.prog 4 #[.slice ao n cap] w fun e w' => e = .returned (.bool true) ∧ Below w.heap.size w w' := by
  have hRI : Hid (RowsIn w ao n cap R) := hR
  clear hR
  go_enter Yba.func4, Yba.ntmps4
  go_wp2_with (go_at_call 5; refine (build_any _ _ _ R _ hn hRI.out).mono ?_; rintro e w1 ⟨p, ho, c, rfl, hp0, hp1, hpc, hH, hsrc, hb1⟩; clear hsrc hRI)
  go_loopw [4, 5, 6] (fun t b i wr => ∃ k : Nat, k ≤ n ∧ i = .int .i64 k ∧ t = .int .i64 (tre (hd R) k) ∧ b = .int .i64 (bar (hd R) k) ∧ Below w1.heap.size w1 wr) (fun _ _ i _ => n - (intOf i).toNat)
  case atStart => exact ⟨0, Nat.zero_le _, rfl, rfl, rfl, Below.refl _ _⟩
  case round =>
    obtain ⟨k, hk, rfl, rfl, rfl, hb⟩ := hrel
    have hsz := hb.size
    have hpc' := (hb.cell (p := ⟨p, 0, none⟩) hp1).trans hpc
    by_cases hlt : k < n
    · obtain ⟨g, rfl, hg, hHA⟩ := held_at hH hlt
      obtain ⟨h0, h1, h2, h3, h4, h5⟩ := (hHA.below hb hg) k hlt
      clear hHA hH hpc
      go_wp2
      · go_roundw
        case rel => exact ⟨k + 1, by omega, by go_num, by rw [(tre_t ‹_›).1], by rw [(tre_t ‹_›).2], hb.alloc hsz _⟩
        case measure => simp [intOf]; omega
      · go_roundw
        case rel => exact ⟨k + 1, by omega, by go_num, by rw [(tre_f ‹_›).1], by rw [(tre_f ‹_›).2], hb.alloc hsz _⟩
        case measure => simp [intOf]; omega
    · obtain rfl : k = n := by omega
      have hH' := hH.below hb (Nat.le_refl _)
      have HP : Hid (votes (hd R) k = wrap64 (wrap64 (shares (hd R) k - tre (hd R) k) - bar (hd R) k)) := split_plain (hd R) k
      clear hH hpc
      go_wp2_with (first
        | (go_at_call 6; refine (votes_any p k c ho (hd R) _ hpc' hn hH').mono ?_; rintro e w4 ⟨rfl, hb4⟩; have hpc4 := (hb4.cell (p := ⟨p, 0, none⟩) (by show p < _; omega)).trans hpc'; have hH4 := hH'.below hb4 (Nat.le_refl _))
        | (go_at_call 8; refine (shares_any p k c ho (hd R) _ hpc4 hn hH4).mono ?_; rintro e w5 ⟨rfl, hb5⟩))
      go_ret
      refine ⟨?_, ((hb1.trans (hb.mono hb1.size)).trans (hb4.mono (Nat.le_trans hb1.size hsz))).trans (hb5.mono (Nat.le_trans (Nat.le_trans hb1.size hsz) hb4.size))⟩
      show Ending.returned (.bool (votes (hd R) k == wrap64 (wrap64 (shares (hd R) k - tre (hd R) k) - bar (hd R) k))) = _
      rw [HP.out]
      simp

theorem split_any (ao : Option Addr) (n cap : Nat) (R : Rw) (w : World) (hR : RowsIn w ao n cap R) :
    Calls Yba.prog 4 #[.slice ao n cap] w fun e w' => e = .returned (.bool true) ∧ Below w.heap.size w w' := by
  by_cases hn : n ≤ 1024
  · exact split_small ao n cap R w hn hR
  · exact split_big ao n cap w (by omega)
end Go.Proofs.Ybulkcwji
