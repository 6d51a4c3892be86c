/-
  Seat b4901aD: bytes.Equal (7); AppendUvarint (5) by the shelf's contract; a row of bytes read.
-/
import Derived.Test.YbulkcwmaDoorMarks
import Derived.Laws.IdiomStrings
import Derived.Laws.AppendOwnNone
namespace Go.Proofs.YbulkcwmaDoor
open Go.RowKit

/-- The bytes l at ao. -/
def BysAt (w : World) (ao : Option Addr) (l : List UInt8) : Prop :=
  l = [] ∨ ∃ g o, ao = some ⟨g, o, none⟩ ∧ g < w.heap.size ∧ ∀ j (hj : j < l.length), w.cell? ⟨g, o + j, none⟩ = some (.int .u8 (l[j]).toNat)

theorem BysAt.below {w w' : World} {ao : Option Addr} {l : List UInt8} (h : BysAt w ao l) {B : Nat} (hb : Below B w w') (hB : w.heap.size ≤ B) : BysAt w' ao l := by
  rcases h with h | ⟨g, o, h1, h2, h3⟩
  · exact .inl h
  · exact .inr ⟨g, o, h1, Nat.lt_of_lt_of_le h2 hb.size, fun j hj => (hb.cell (p := ⟨g, o + j, none⟩) (by show g < B; omega)).trans (h3 j hj)⟩
theorem BysAt.grown {w w' : World} {ao : Option Addr} {l : List UInt8} {p : Nat} (h : BysAt w ao l) {B : Nat} (hb : Below B w w') {w2 : World} (hg : w'.grownBy w2 (some p)) (hB : w.heap.size ≤ B) (hp : w.heap.size ≤ p) : BysAt w2 ao l := by
  rcases h with h | ⟨g, o, h1, h2, h3⟩
  · exact .inl h
  · refine .inr ⟨g, o, h1, Nat.lt_of_lt_of_le h2 (Nat.le_trans hb.size hg.size), fun j hj => ?_⟩
    exact cell_grown hg ((hb.cell (p := ⟨g, o + j, none⟩) (by show g < B; omega)).trans (h3 j hj)) (by omega)

theorem conv_zero (w : World) (ao : Option Addr) (c : Nat) : (convert 23 9 (.slice ao 0 c)).run Ybad.prog w = .ok (.string ⟨([] : List UInt8).toArray⟩) w := by
  rw [run_convert_bytes_string w 23 9 5 _ 0 c Ybad.underlying23 Ybad.underlying5 Ybad.underlying9]
  cases ao <;> simp [Conv.bytesToString, loadCells]
  all_goals rfl

theorem add_none (b off j : Nat) : (⟨b, off, none⟩ : Addr).add j = ⟨b, off + j, none⟩ := by unfold Addr.add; split <;> simp_all

theorem BysAt.conv {w : World} {ao : Option Addr} {l : List UInt8} (h : BysAt w ao l) (c : Nat) : (convert 23 9 (.slice ao l.length c)).run Ybad.prog w = .ok (.string ⟨l.toArray⟩) w := by
  rcases h with rfl | ⟨g, o, rfl, _, h3⟩
  · exact conv_zero w ao c
  · exact run_convert_bytes_back w 23 9 5 _ c l Ybad.underlying23 Ybad.underlying5 Ybad.underlying9 (fun j hj => by rw [add_none]; exact h3 j hj)

/-- bytes.Equal at two slices of the same bytes. -/
theorem equal7 (a a' : Option Addr) (n n' c c' : Nat) (l : List UInt8) (w : World) (hn : l.length = n) (hn' : l.length = n') (h1 : BysAt w a l) (h2 : BysAt w a' l) :
    Calls Ybad.prog 7 #[.slice a n c, .slice a' n' c'] w fun e w' => e = .returned (.bool true) ∧ w' = w := by
  have e1 := h1.conv c
  have e2 := h2.conv c'
  rw [hn] at e1
  rw [hn'] at e2
  obtain ⟨st, hst⟩ : ∃ st : ByteArray, st = ⟨l.toArray⟩ := ⟨_, rfl⟩
  rw [← hst] at e1 e2
  clear hst hn hn' h1 h2
  go_enter Ybad.func7, Ybad.ntmps7
  go_wp2
  go_ret
  exact ⟨rfl, rfl⟩

theorem bc_append (a b : List UInt8) : Lib.byteCells (a ++ b) = Lib.byteCells a ++ Lib.byteCells b := by simp [Lib.byteCells]
theorem bc_length (a : List UInt8) : (Lib.byteCells a).length = a.length := by simp [Lib.byteCells]
theorem bc_at {a : List UInt8} {j : Nat} (hj : j < a.length) : (Lib.byteCells a)[j]? = some (.int .u8 (a[j]).toNat) := by simp [Lib.byteCells, hj]

/-- A row of bytes that the call owns. -/
def OwnB (B : Nat) (w : World) (v : Value) (l : List UInt8) : Prop := w.ownsRow B 5 1 v l.length (Lib.byteCells l)

/-- 'buf = binary.AppendUvarint(buf, x)'. -/
theorem au5 (B x : Nat) (hx : x < 18446744073709551616) (sv : Value) (l : List UInt8) (w : World) (hown : OwnB B w sv l) (hBw : B ≤ w.heap.size) (hlim : l.length ≤ 100000) :
    Calls Ybad.prog 5 #[sv, .int .u64 x] w fun e w' => ∃ v', e = .returned v' ∧ OwnB B w' v' (l ++ Lib.uvarint x) ∧ Below B w w' := by
  refine (Any.binary_AppendUvarint Ybad.laysVar47 B l.length x hx sv (Lib.byteCells l) w hown hBw (by omega)).mono ?_
  rintro e w' ⟨v', he, h1, h2⟩
  refine ⟨v', he, ?_, h2⟩
  unfold OwnB
  rw [bc_append, List.length_append]
  exact h1

theorem OwnB.form {B : Nat} {w : World} {v : Value} {l : List UInt8} (h : OwnB B w v l) (hl : 0 < l.length) : ∃ g cap, v = .slice (some ⟨g, 0, none⟩) l.length cap ∧ B ≤ g ∧ g < w.heap.size ∧ l.length ≤ cap ∧ ∀ j (hj : j < l.length), w.cell? ⟨g, 0 + j, none⟩ = some (.int .u8 (l[j]).toNat) := by
  have h' : w.ownsRow B 5 1 v l.length (Lib.byteCells l) := h
  rcases h'.2 with ⟨_, h0⟩ | ⟨g, cap, cur, rfl, hg, hh, hc, _⟩
  · omega
  · refine ⟨g, cap, rfl, hg, (Array.getElem?_eq_some_iff.1 hh).1, hc, fun j hj => ?_⟩
    rw [Nat.zero_add, h'.cellAt j (by omega), bc_at hj]
end Go.Proofs.YbulkcwmaDoor
