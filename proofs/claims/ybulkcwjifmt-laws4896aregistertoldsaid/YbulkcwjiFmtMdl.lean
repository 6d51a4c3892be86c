/-
  Seat b4896aF: what the walks of zzs4896amodel (10) share.
-/
import Derived.Test.YbulkcwjiFmtChk
namespace Go.Proofs.YbulkcwjiFmt
open Go.RowKit

/-- How the model ends. -/
def MdlPost (ans : Nat → ByteArray → Bool) (L : List ByteArray) (B : Nat) (w : World) (e : Ending) (w' : World) : Prop :=
  ∃ (log : List ByteArray) (ok : Bool) (vo : Option Addr) (vc : Nat), e = .returned (.tuple #[.slice vo log.length vc, .bool ok]) ∧ w'.ownsRow B 9 1 (.slice vo log.length vc) log.length (log.map Value.string) ∧ Ends ans L log ok ∧ Below B w w'

/-- Behind 'want = append(want, a)'. -/
theorem want_step {B gg cap vc : Nat} {w x w1 : World} {l : List ByteArray} {a : ByteArray} {vo : Option Addr} {o : Obj} (hown : x.ownsRow B 9 1 (.slice vo l.length vc) l.length (l.map Value.string)) (hb : Below B w x) (hB : B ≤ w.heap.size)
    (hown1 : w1.ownsRow B 9 1 (.slice (some ⟨gg, 0, none⟩) (l.length + 1) cap) (l.length + 1) (l.map Value.string ++ [.string a])) (hgrow : (x.alloc o).grownBy w1 (Value.slice vo l.length vc).ownBlock) :
    w1.ownsRow B 9 1 (.slice (some ⟨gg, 0, none⟩) (l ++ [a]).length cap) (l ++ [a]).length ((l ++ [a]).map Value.string) ∧ Below B w w1 ∧
      ∀ (b : Nat) (cs : Array Value), x.heap[b]? = some (.cells cs 40 (0, 0)) → w1.heap[b]? = some (.cells cs 40 (0, 0)) := by
  have hsz := hb.size
  refine ⟨by simpa using hown1, (hb.alloc (by omega) o).grown hgrow (by simp; omega) (fun j hj => (hown.lt j hj).1), fun b cs e => ?_⟩
  have hbl : b < x.heap.size := (Array.getElem?_eq_some_iff.1 e).1
  have hne' : some b ≠ (Value.slice vo l.length vc).ownBlock := by
    intro e'
    rcases hown.2 with ⟨h, _⟩ | ⟨g, cap', cur, h, _, hh, _⟩
    · rw [h] at e'
      simp [Value.ownBlock] at e'
    · rw [h] at e'
      simp [Value.ownBlock] at e'
      subst e'
      rw [hh] at e
      simp only [Option.some.injEq, Obj.cells.injEq] at e
      exact absurd e.2.1 (by decide)
  rw [hgrow.block b (by simp; omega) hne', Below.heap_alloc _ _ _ hbl]
  exact e

theorem prop_cells {w : World} {T : Nat} {r y : Value} {b : Bool} (h : w.heap[T]? = some (.cells #[r, .bool b, y] 40 (0, 0))) : w.cell? ⟨T, 1, none⟩ = some (.bool b) ∧ w.cell? ⟨T, 2, none⟩ = some y :=
  ⟨(cell_of_row w T 1 _ 40 (0, 0) h).trans rfl, (cell_of_row w T 2 _ 40 (0, 0) h).trans rfl⟩
end Go.Proofs.YbulkcwjiFmt
