/-
  Seat b4906a: LawS4906BExact (3): the walk.
-/
import Derived.Test.YbulkcwosOr
namespace Go.Proofs.Ybulkcwos.lawS4906BExact
open Go.ChangeShapes Go.WideShapes Go.ChangeAt Go.RowKit

theorem new3 {w x : World} {B g : Nat} {a b c : Int} (hb : Below B w x) (hg : w.heap[g]? = some (.cells #[.int .i64 a, .int .i64 b, .int .i64 c] 23)) (h : g < B) :
    x.cell? ⟨g, 0, none⟩ = some (.int .i64 a) ∧ x.cell? ⟨g, 1, none⟩ = some (.int .i64 b) ∧ x.cell? ⟨g, 2, none⟩ = some (.int .i64 c) := by
  have e : x.heap[g]? = some (.cells #[.int .i64 a, .int .i64 b, .int .i64 c] 23) := (hb.block g h).trans hg
  have c := fun j => cell_of_row x g j _ 23 (0, 0) e
  exact ⟨c 0, c 1, c 2⟩

theorem drewn {X Y : World} {n : Nat} {a : Addr} {v : Value} (h : Y = X.drewN n) (k : X.cell? a = some v) : Y.cell? a = some v := by rw [h]; exact k

set_option maxRecDepth 100000 in
set_option maxHeartbeats 2000000 in
theorem walk (a0 a1 a2 a3 a4 a5 : Int) (w : World) :
    Calls Yba.prog 3 #[.int .i64 a0, .int .i64 a1, .int .i64 a2, .int .i64 a3, .int .i64 a4, .int .i64 a5] w fun e w' => e = .returned (.bool true) ∧ Below w.heap.size w w' := by
  obtain ⟨p0, hp0⟩ : ∃ p, pick a0 a3 = p := ⟨_, rfl⟩
  obtain ⟨p1, hp1⟩ : ∃ p, pick a1 a4 = p := ⟨_, rfl⟩
  obtain ⟨p2, hp2⟩ : ∃ p, pick a2 a5 = p := ⟨_, rfl⟩
  have k6 := fun (w : World) => pick6 a0 a3 w
  have k7 := fun (w : World) => pick7 a1 a4 w
  have k8 := fun (w : World) => pick6 a2 a5 w
  rw [hp0] at k6
  rw [hp1] at k7
  rw [hp2] at k8
  go_enter Yba.func3, Yba.ntmps3
  go_wp2_with fail
  refine (or5 _ _ _ _ _ _ _).mono ?_
  rw [hp0, hp1, hp2]
  rintro e x1 ⟨rfl, b1⟩
  have sz : w.heap.size + 1 + 1 ≤ x1.heap.size := by have := b1.size; simpa using this
  have bw : Below w.heap.size w x1 := by
    refine Below.trans ?_ (b1.mono (by simp; omega))
    exact ((Below.refl _ _).alloc (Nat.le_refl _) _).alloc (by simp) _
  obtain ⟨c3, c4, c5⟩ := new3 (g := w.heap.size + 1) b1 (heap_alloc2_new _ _ _) (by simp)
  obtain ⟨c0, c1, c2⟩ := new3 (g := w.heap.size) b1 ((Below.heap_alloc _ _ _ (by simp)).trans (heap_alloc_new _ _)) (by simp; omega)
  clear b1
  go_wp2_with fail
  obtain ⟨X, hX⟩ : ∃ X, X = x1.alloc (.cells #[.int .i64 p0, .int .i64 p1, .int .i64 p2] 23) := ⟨_, rfl⟩
  rw [← hX]
  have kX : Below x1.heap.size x1 X := by rw [hX]; exact (Below.refl _ _).alloc (Nat.le_refl _) _
  have bX : Below w.heap.size w X := bw.trans (kX.mono (by omega))
  have sX : x1.heap.size < X.heap.size := by rw [hX]; simp
  obtain ⟨k0, k1, k2⟩ := new3 (g := x1.heap.size) (Below.refl X.heap.size X) (by rw [hX]; exact heap_alloc_new _ _) sX
  have d0 := (kX.cell (p := ⟨w.heap.size, 0, none⟩) (by show w.heap.size < x1.heap.size; omega)).trans c0
  have d1 := (kX.cell (p := ⟨w.heap.size, 1, none⟩) (by show w.heap.size < x1.heap.size; omega)).trans c1
  have d2 := (kX.cell (p := ⟨w.heap.size, 2, none⟩) (by show w.heap.size < x1.heap.size; omega)).trans c2
  have d3 := (kX.cell (p := ⟨w.heap.size + 1, 0, none⟩) (by show w.heap.size + 1 < x1.heap.size; omega)).trans c3
  have d4 := (kX.cell (p := ⟨w.heap.size + 1, 1, none⟩) (by show w.heap.size + 1 < x1.heap.size; omega)).trans c4
  have d5 := (kX.cell (p := ⟨w.heap.size + 1, 2, none⟩) (by show w.heap.size + 1 < x1.heap.size; omega)).trans c5
  clear hX kX c0 c1 c2 c3 c4 c5 bw
  go_quiet (first | (go_at_call 6; exact Calls.quiet_of_same (k6 _)))
  obtain ⟨Y, hY⟩ : ∃ Y, Y = X.drewN nq := ⟨_, rfl⟩
  rw [← hY]
  replace k1 := drewn hY k1
  replace k2 := drewn hY k2
  replace d0 := drewn hY d0
  replace d1 := drewn hY d1
  replace d2 := drewn hY d2
  replace d3 := drewn hY d3
  replace d4 := drewn hY d4
  replace d5 := drewn hY d5
  have bY : Below w.heap.size w Y := by rw [hY]; exact below_drewN bX _
  clear hY k0 bX sX
  go_wp2_with fail
  go_quiet (first | (go_at_call 7; exact Calls.quiet_of_same (k7 _)))
  obtain ⟨Z, hZ⟩ : ∃ Z, Z = Y.drewN nq := ⟨_, rfl⟩
  rw [← hZ]
  replace k2 := drewn hZ k2
  replace d0 := drewn hZ d0
  replace d1 := drewn hZ d1
  replace d2 := drewn hZ d2
  replace d3 := drewn hZ d3
  replace d4 := drewn hZ d4
  replace d5 := drewn hZ d5
  have bZ : Below w.heap.size w Z := by rw [hZ]; exact below_drewN bY _
  clear hZ k1 bY
  go_wp2_with fail
  go_quiet (first | (go_at_call 6; exact Calls.quiet_of_same (k8 _)))
  go_wp2
  go_ret
  exact ⟨rfl, below_drewN bZ _⟩
end Go.Proofs.Ybulkcwos.lawS4906BExact
