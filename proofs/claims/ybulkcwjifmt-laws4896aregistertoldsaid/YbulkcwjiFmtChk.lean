/-
  Seat b4896aF: what the walks of CheckAccounts (9) share.
-/
import Derived.Test.YbulkcwjiFmtClos
namespace Go.Proofs.YbulkcwjiFmt
open Go.RowKit

/-- The t-th list of proposal i: where it lies. -/
def sa (A : Ad) (P : Pr) (i t : Nat) : Option Addr := if t = 0 then A.ra i else if P.im i = true then A.ba i else none
def sc (A : Ad) (P : Pr) (i t : Nat) : Nat := if t = 0 then A.rc i else if P.im i = true then A.bc i else 0
def fstr (t : Nat) : ByteArray := if t = 0 then ⟨#[114, 101, 108, 97, 116, 101, 100]⟩ else ⟨#[105, 110, 116, 101, 114, 105, 109, 58, 32, 98, 121]⟩

theorem strs_at {w : World} {P : Pr} {A : Ad} {i : Nat} (h : StrsAt w (A.ra i) (P.rl i) (P.rs i) ∧ StrsAt w (A.ba i) (P.bl i) (P.bs i)) (t : Nat) : StrsAt w (sa A P i t) (sl P i t) (ss P i t) := by
  by_cases ht : t = 0
  · have e : ss P i t = P.rs i := by funext j; simp [ss, ht]
    rw [e]
    simpa [sa, sl, ht] using h.1
  · have e : ss P i t = P.bs i := by funext j; simp [ss, ht]
    rw [e]
    by_cases hi : P.im i = true
    · simpa [sa, sl, ht, byl, hi] using h.2
    · exact .inl (by simp [sl, ht, byl, hi])

/-- The two lists of a proposal, as CheckAccounts lays them out. -/
def ListsAt (w : World) (b i : Nat) (P : Pr) (A : Ad) : Prop :=
  w.heap[b]? = some (.cells #[.string ⟨#[114, 101, 108, 97, 116, 101, 100]⟩, .slice (A.ra i) (P.rl i) (A.rc i), .string ⟨#[105, 110, 116, 101, 114, 105, 109, 58, 32, 98, 121]⟩, .slice (sa A P i 1) (sl P i 1) (sc A P i 1)] 65 (0, 0))

theorem lists_cells {w : World} {b i t : Nat} {P : Pr} {A : Ad} (h : ListsAt w b i P A) (ht : t < 2) :
    w.cell? ⟨b, t * 2, none⟩ = some (.string (fstr t)) ∧ w.cell? ⟨b, t * 2 + 1, none⟩ = some (.slice (sa A P i t) (sl P i t) (sc A P i t)) := by
  have h' : w.heap[b]? = some (.cells _ 65 (0, 0)) := h
  have c := fun j => cell_of_row w b j _ 65 (0, 0) h'
  rcases (show t = 0 ∨ t = 1 by omega) with rfl | rfl
  · exact ⟨(c _).trans rfl, (c _).trans rfl⟩
  · exact ⟨(c _).trans rfl, (c _).trans rfl⟩

theorem lists_true {P : Pr} {A : Ad} {i : Nat} (h : P.im i = true) : Value.slice (sa A P i 1) (sl P i 1) (sc A P i 1) = .slice (A.ba i) (P.bl i) (A.bc i) := by
  simp [sa, sl, sc, byl, h]
theorem lists_false {P : Pr} {A : Ad} {i : Nat} (h : P.im i = false) : Value.slice (sa A P i 1) (sl P i 1) (sc A P i 1) = .slice none 0 0 := by
  simp [sa, sl, sc, byl, h]

/-- What has been asked ahead of list t of proposal i. -/
def mid (P : Pr) (i t : Nat) : List ByteArray := if t = 0 then pre P i else if t = 1 then st P i 1 0 else pre P (i + 1)
theorem mid_zero (P : Pr) (i : Nat) : mid P i 0 = pre P i := by simp [mid]
theorem mid_two (P : Pr) (i : Nat) : mid P i 2 = pre P (i + 1) := by simp [mid]
theorem mid_st {P : Pr} {i t : Nat} (h : t < 2) : mid P i t = st P i t 0 := by
  rcases (show t = 0 ∨ t = 1 by omega) with rfl | rfl
  · rw [mid_zero, st_zero]
  · simp [mid]
theorem st_next {P : Pr} {i t : Nat} (h : t < 2) : st P i t (sl P i t) = mid P i (t + 1) := by
  rcases (show t = 0 ∨ t = 1 by omega) with rfl | rfl
  · rw [st_mid]; simp [mid]
  · rw [st_end]; simp [mid]

theorem sl_le {P : Pr} {n i t : Nat} (h : Bnd P n) (hi : i < n) : sl P i t ≤ 256 := by
  have := h.2 i hi
  have := byl_le P i
  unfold sl
  split <;> omega
theorem hide {p : Prop} (h : p) : Hid p := h

/-- How CheckAccounts ends. -/
def ChkPost (Inv : List ByteArray → World → Prop) (ans : Nat → ByteArray → Bool) (L : List ByteArray) (lb : Nat) (w : World) (e : Ending) (w' : World) : Prop :=
  ∃ log, Inv log w' ∧ Below lb w w' ∧ ((e = .returned .nilIface ∧ Ends ans L log true) ∨ ((∃ u x, e = .returned (.iface u x)) ∧ Ends ans L log false))

theorem one_cells {w : World} {g i : Nat} {P : Pr} {A : Ad} {q : Option Nat} (h : ∀ j, j < 8 → w.cell? ⟨g, i * 8 + j, none⟩ = (pc P A q i)[j]?) :
    w.cell? ⟨g, i * 8, none⟩ = some (.string ⟨#[]⟩) ∧ w.cell? ⟨g, i * 8 + 1, none⟩ = some (.string ⟨#[]⟩) ∧ w.cell? ⟨g, i * 8 + 2, none⟩ = some (.string ⟨#[]⟩) ∧ w.cell? ⟨g, i * 8 + 3, none⟩ = some (.slice (A.ra i) (P.rl i) (A.rc i)) ∧
    w.cell? ⟨g, i * 8 + 4, none⟩ = some (.bool false) ∧ w.cell? ⟨g, i * 8 + 5, none⟩ = some (.bool false) ∧ w.cell? ⟨g, i * 8 + 6, none⟩ = some (.pointer (q.map fun b => ⟨b, 0, none⟩)) ∧ w.cell? ⟨g, i * 8 + 7, none⟩ = some (.slice none 0 0) :=
  ⟨h 0 (by omega), h 1 (by omega), h 2 (by omega), h 3 (by omega), h 4 (by omega), h 5 (by omega), h 6 (by omega), h 7 (by omega)⟩

theorem heap_lists (w : World) (X Y : Obj) : ((w.alloc X).alloc Y).heap[w.heap.size + 1]? = some Y := by
  have := heap_alloc_new (w.alloc X) Y
  simpa using this
end Go.Proofs.YbulkcwjiFmt
