/-
  Seat b4906a: 'Rows.LawS4906BIdemSaid'.
-/
import Derived.Test.YbulkcwosOr
import Derived.Deep.RegionWith
namespace Go.Proofs.Ybulkcwos.lawS4906BIdem
open Go.ChangeShapes Go.WideShapes Go.ChangeAt Go.RowKit

theorem new3 {w x : World} {B g : Nat} {a b c : Int} (hb : Below B w x) (hg : w.heap[g]? = some (.cells #[.int .i64 a, .int .i64 b, .int .i64 c] 23)) (h : g < B) :
    x.cell? ⟨g, 0, none⟩ = some (.int .i64 a) ∧ x.cell? ⟨g, 1, none⟩ = some (.int .i64 b) ∧ x.cell? ⟨g, 2, none⟩ = some (.int .i64 c) := by
  have e : x.heap[g]? = some (.cells #[.int .i64 a, .int .i64 b, .int .i64 c] 23) := (hb.block g h).trans hg
  have c := fun j => cell_of_row x g j _ 23 (0, 0) e
  exact ⟨c 0, c 1, c 2⟩

set_option maxHeartbeats 2000000 in
theorem walk (a0 a1 a2 a3 a4 a5 : Int) (w : World) :
    Calls Yba.prog 4 #[.int .i64 a0, .int .i64 a1, .int .i64 a2, .int .i64 a3, .int .i64 a4, .int .i64 a5] w fun e w' => e = .returned (.bool true) ∧ Below w.heap.size w w' := by
  obtain ⟨p0, hp0⟩ : ∃ p, pick a0 a3 = p := ⟨_, rfl⟩
  obtain ⟨p1, hp1⟩ : ∃ p, pick a1 a4 = p := ⟨_, rfl⟩
  obtain ⟨p2, hp2⟩ : ∃ p, pick a2 a5 = p := ⟨_, rfl⟩
  have r0 := pick_again a0 a3
  have r1 := pick_again a1 a4
  have r2 := pick_again a2 a5
  rw [hp0] at r0
  rw [hp1] at r1
  rw [hp2] at r2
  have s0 : 0 < a3 → 0 < p0 := by rw [← hp0]; unfold pick; split <;> omega
  have s1 : 0 < a4 → 0 < p1 := by rw [← hp1]; unfold pick; split <;> omega
  have s2 : 0 < a5 → 0 < p2 := by rw [← hp2]; unfold pick; split <;> omega
  go_enter Yba.func4, Yba.ntmps4
  go_wp2_with fail
  refine (or5 _ _ _ _ _ _ _).mono ?_
  rw [hp0, hp1, hp2]
  rintro e x1 ⟨rfl, b1⟩
  have sz : w.heap.size + 1 + 1 ≤ x1.heap.size := by have := b1.size; simpa using this
  have bw : Below w.heap.size w x1 := by
    refine Below.trans ?_ (b1.mono (by simp; omega))
    exact ((Below.refl _ _).alloc (Nat.le_refl _) _).alloc (by simp) _
  obtain ⟨c3, c4, c5⟩ := new3 (g := w.heap.size + 1) b1 (heap_alloc2_new _ _ _) (by simp)
  clear b1
  go_wp2_with fail
  obtain ⟨X, hX⟩ : ∃ X, X = x1.alloc (.cells #[.int .i64 p0, .int .i64 p1, .int .i64 p2] 23) := ⟨_, rfl⟩
  rw [← hX]
  have kX : Below x1.heap.size x1 X := by rw [hX]; exact (Below.refl _ _).alloc (Nat.le_refl _) _
  have bX : Below w.heap.size w X := bw.trans (kX.mono (by omega))
  have sX : x1.heap.size < X.heap.size := by rw [hX]; simp
  obtain ⟨k0, k1, k2⟩ := new3 (g := x1.heap.size) (Below.refl X.heap.size X) (by rw [hX]; exact heap_alloc_new _ _) sX
  have d0 := (kX.cell (p := ⟨w.heap.size + 1, 0, none⟩) (by show w.heap.size + 1 < x1.heap.size; omega)).trans c3
  have d1 := (kX.cell (p := ⟨w.heap.size + 1, 1, none⟩) (by show w.heap.size + 1 < x1.heap.size; omega)).trans c4
  have d2 := (kX.cell (p := ⟨w.heap.size + 1, 2, none⟩) (by show w.heap.size + 1 < x1.heap.size; omega)).trans c5
  clear hX kX c3 c4 c5 bw
  go_region_with (go_at_call 5; refine (or5 p0 p1 p2 a3 a4 a5 _).mono ?_; rw [r0, r1, r2]; rintro e x2 ⟨rfl, b2⟩; have q0 : x2.cell? ⟨x1.heap.size, 0, none⟩ = some (.int .i64 p0) := (b2.cell (p := ⟨x1.heap.size, 0, none⟩) sX).trans k0; have q1 : x2.cell? ⟨x1.heap.size, 1, none⟩ = some (.int .i64 p1) := (b2.cell (p := ⟨x1.heap.size, 1, none⟩) sX).trans k1; have q2 : x2.cell? ⟨x1.heap.size, 2, none⟩ = some (.int .i64 p2) := (b2.cell (p := ⟨x1.heap.size, 2, none⟩) sX).trans k2)
  all_goals have bE : Below w.heap.size w x2 := Below.trans (by repeat' (first | exact bX | refine Below.drew ?_)) (b2.mono (by show w.heap.size ≤ X.heap.size; omega))
  all_goals clear b2 d0 d1 d2 k0 k1 k2 bX
  all_goals by_cases t3 : 0 < a3
  all_goals by_cases t4 : 0 < a4
  all_goals by_cases t5 : 0 < a5
  all_goals
    have u0 := fun h => s0 h
    have u1 := fun h => s1 h
    have u2 := fun h => s2 h
    go_wp2
    go_ret
    exact ⟨rfl, by repeat' (first | exact bE | refine Below.drew ?_)⟩
end Go.Proofs.Ybulkcwos.lawS4906BIdem
