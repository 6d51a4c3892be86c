/-
  Seat b4906a: (Limits).Or (5), pick64 (6), pick (7).
-/
import Derived.Test.YbulkcwosRows
import Derived.WalkKit
import Derived.ProofKit
import Derived.OpenShut
import Derived.ShutString
import Derived.Below
import Derived.WalkSmall
import Derived.Deep.QuietTactic
import Derived.BigQuiet
namespace Go.Proofs.Ybulkcwos
open Go.RowKit

/-- 'a' where it is positive, else 'b'. -/
def pick (a b : Int) : Int := if 0 < a then a else b
theorem pick_pos {a b : Int} (h : 0 < a) : pick a b = a := if_pos h
theorem pick_neg {a b : Int} (h : a ≤ 0) : pick a b = b := if_neg (by omega)
theorem pick_again (a b : Int) : pick (pick a b) b = pick a b := by
  by_cases h : 0 < a
  · rw [pick_pos h, pick_pos h]
  · rw [pick_neg (a := a) (by omega)]
    unfold pick
    split <;> rfl

/-- Three numbers as a Limits. -/
abbrev lim (a b c : Int) : Value := .agg #[.int .i64 a, .int .i64 b, .int .i64 c]

set_option maxHeartbeats 1000000 in
theorem or5 (a1 a2 a3 b1 b2 b3 : Int) (w : World) :
    Calls Yba.prog 5 #[lim a1 a2 a3, lim b1 b2 b3] w fun e w' => e = .returned (lim (pick a1 b1) (pick a2 b2) (pick a3 b3)) ∧ Below w.heap.size w w' := by
  by_cases h1 : a1 ≤ 0
  all_goals by_cases h2 : a2 ≤ 0
  all_goals by_cases h3 : a3 ≤ 0
  all_goals
    first | rw [pick_neg h1] | rw [pick_pos (a := a1) (by omega)]
    first | rw [pick_neg h2] | rw [pick_pos (a := a2) (by omega)]
    first | rw [pick_neg h3] | rw [pick_pos (a := a3) (by omega)]
    go_enter Yba.func5, Yba.ntmps5
    go_wp2
    try simp only [Exit.inBlock, Exit.then]
    refine bodyPost_ret (by simp [results, Yba.results5, go_sem]) rfl ⟨rfl, ?_⟩
    repeat' (first | exact Below.refl _ _ | refine Below.drew ?_ | refine Below.alloc ?_ (by simp <;> omega) _)

theorem pick6 (a b : Int) (w : World) : Calls Yba.prog 6 #[.int .i64 a, .int .i64 b] w fun e w' => e = .returned (.int .i64 (pick a b)) ∧ w' = w := by
  by_cases h : 0 < a
  · rw [pick_pos h]
    go_enter Yba.func6, Yba.ntmps6
    go_wp2
    go_ret
    exact ⟨rfl, rfl⟩
  · rw [pick_neg (by omega)]
    go_enter Yba.func6, Yba.ntmps6
    go_wp2
    go_ret
    exact ⟨rfl, rfl⟩
theorem pick7 (a b : Int) (w : World) : Calls Yba.prog 7 #[.int .i64 a, .int .i64 b] w fun e w' => e = .returned (.int .i64 (pick a b)) ∧ w' = w := by
  by_cases h : 0 < a
  · rw [pick_pos h]
    go_enter Yba.func7, Yba.ntmps7
    go_wp2
    go_ret
    exact ⟨rfl, rfl⟩
  · rw [pick_neg (by omega)]
    go_enter Yba.func7, Yba.ntmps7
    go_wp2
    go_ret
    exact ⟨rfl, rfl⟩
end Go.Proofs.Ybulkcwos
