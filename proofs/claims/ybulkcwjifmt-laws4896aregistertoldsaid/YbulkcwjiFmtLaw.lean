/-
  Seat b4896aF: what the two laws' walks share.
-/
import Derived.Test.YbulkcwjiFmtMdl
namespace Go.Proofs.YbulkcwjiFmt
open Go.RowKit

theorem owns_slice {w : World} {B n : Nat} {v : Value} {xs : List Value} (h : w.ownsRow B 9 1 v n xs) : ∃ vo vc, v = .slice vo n vc := by
  rcases h.2 with ⟨rfl, rfl⟩ | ⟨g, cap, cur, rfl, _⟩
  · exact ⟨_, _, rfl⟩
  · exact ⟨_, _, rfl⟩

/-- The strings of a list, by their index. -/
def nth (l : List ByteArray) (j : Nat) : ByteArray := (l[j]?).getD ⟨#[]⟩

theorem strs_of_owns {w : World} {B vc : Nat} {vo : Option Addr} {l : List ByteArray} (h : w.ownsRow B 9 1 (.slice vo l.length vc) l.length (l.map Value.string)) : StrsAt w vo l.length (nth l) := by
  have h' := h
  rcases h.2 with ⟨_, h0⟩ | ⟨g, cap, cur, hv, _⟩
  · exact .inl h0
  · simp only [Value.slice.injEq] at hv
    obtain ⟨rfl, _, rfl⟩ := hv
    refine .inr ⟨g, 0, rfl, (h'.lt g rfl).2, fun j hj => ?_⟩
    rw [Nat.zero_add, h'.cellAt j (by omega)]
    simp [nth, hj]

theorem ends_length {ans : Nat → ByteArray → Bool} {L log : List ByteArray} {ok : Bool} (h : Ends ans L log ok) : log.length ≤ L.length := by
  rcases h with ⟨_, rfl, _⟩ | ⟨_, l, a, r, rfl, rfl, _⟩
  · exact Nat.le_refl _
  · simp

theorem LogAt.owns {B lb : Nat} {l : List ByteArray} {w : World} (h : LogAt B lb l w) : ∃ vo vc, w.cell? ⟨lb, 0, none⟩ = some (.slice vo l.length vc) ∧ w.ownsRow B 9 1 (.slice vo l.length vc) l.length (l.map Value.string) := by
  obtain ⟨v, h1, h2⟩ := h
  obtain ⟨vo, vc, rfl⟩ := owns_slice h2
  exact ⟨vo, vc, cell_of_one h1, h2⟩

theorem CountAt.cell {lb : Nat} {l : List ByteArray} {w : World} (h : CountAt lb l w) : w.cell? ⟨lb + 1, 0, none⟩ = some (.int .i64 (l.length : Int)) := cell_of_one h.2
theorem CountAt.lt {lb : Nat} {l : List ByteArray} {w : World} (h : CountAt lb l w) : lb + 1 < w.heap.size := (Array.getElem?_eq_some_iff.1 h.2).1
theorem LogAt.lt {B lb : Nat} {l : List ByteArray} {w : World} (h : LogAt B lb l w) : lb < w.heap.size := by
  obtain ⟨v, h1, _⟩ := h
  exact (Array.getElem?_eq_some_iff.1 h1).1
end Go.Proofs.YbulkcwjiFmt
