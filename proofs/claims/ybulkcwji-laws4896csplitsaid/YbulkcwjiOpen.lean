/-
  Seat b4896a: the rows that came in, opened.
-/
import Derived.Test.YbulkcwjiSame
import Derived.ProofKit
import Derived.OpenShut
import Derived.Deep.Slices
namespace Go.Proofs.Ybulkcwji
open Go.ChangeShapes Go.WideShapes Go.ChangeAt Go.RowKit

theorem Yba.cells31 : Yba.prog.cellsOf 31 = 6 := by kernel_rfl
theorem Yba.cells9 : Yba.prog.cellsOf 9 = 1 := by kernel_rfl
theorem Yba.cells2 : Yba.prog.cellsOf 2 = 1 := by kernel_rfl
theorem Yba.cells5 : Yba.prog.cellsOf 5 = 1 := by kernel_rfl

/-- One row as it reads. -/
structure Rec where
  ac : ByteArray
  nm : ByteArray
  sh : Int
  br : Int
  ro : Int
  gr : ByteArray
def Rec.none : Rec := { ac := ⟨#[]⟩, nm := ⟨#[]⟩, sh := 0, br := 0, ro := 0, gr := ⟨#[]⟩ }

theorem rec_open {H : Type} {enc : TypeId × Value → H} {W : World} {base : Nat} {sp : Nat → Bool} {held : Bool} {n : Nat} {cs : List Value} {x : DataW H × List MemPlace}
    (h : DataW.trod enc Yba.prog W base sp held n 31 cs = some x) :
    ∃ r : Rec, cs = [.string r.ac, .string r.nm, .int .i64 r.sh, .int .i64 r.br, .int .u8 r.ro, .string r.gr] ∧ 0 ≤ r.ro ∧ r.ro ≤ 255 := by
  obtain ⟨xs, k, hk, hxy, hlen, hxl, hf⟩ := DataW.trod_struct Yba.underlying31 h
  rw [Yba.cells31] at hlen
  match xs, hxl, cs, hlen with
  | [y0, y1, y2, y3, y4, y5], _, [v0, v1, v2, v3, v4, v5], _ =>
    have g0 := hf 0 _ rfl
    have g1 := hf 1 _ rfl
    have g2 := hf 2 _ rfl
    have g3 := hf 3 _ rfl
    have g4 := hf 4 _ rfl
    have g5 := hf 5 _ rfl
    simp [Yba.cells9, Yba.cells2, Yba.cells5] at g0 g1 g2 g3 g4 g5
    obtain ⟨a, ea, _⟩ := DataW.trod_string Yba.underlying9 g0
    obtain ⟨b, eb, _⟩ := DataW.trod_string Yba.underlying9 g1
    obtain ⟨c, ec, _⟩ := DataW.trod_int Yba.underlying2 g2
    obtain ⟨d, ed, _⟩ := DataW.trod_int Yba.underlying2 g3
    obtain ⟨e, ee, _, we⟩ := DataW.trod_int Yba.underlying5 g4
    obtain ⟨f, ef, _⟩ := DataW.trod_string Yba.underlying9 g5
    simp at ea eb ec ed ee ef
    subst ea eb ec ed ee ef
    have := bounds_u8 we
    exact ⟨⟨a, b, c, d, e, f⟩, rfl, this.1, this.2⟩

theorem rows_open {H : Type} {enc : TypeId × Value → H} {W : World} {sp : Nat → Bool} {held : Bool} {n : Nat} {x : DataW H × List MemPlace} {ao : Option Addr} {len cap : Nat}
    (h : DataW.trod enc Yba.prog W 0 sp held n 22 [.slice ao len cap] = some x) : ∃ R, RowsIn W ao len cap R := by
  rcases Deep.open_slice Yba.underlying22 h with ⟨hcs, _⟩ | ⟨a, l, c, m, fu, D, Pl, hcs, _, hl, _, hm, _, hx⟩
  · simp at hcs
    obtain ⟨rfl, rfl, rfl⟩ := hcs
    exact ⟨⟨fun _ => ⟨#[]⟩, fun _ => ⟨#[]⟩, fun _ => 0, fun _ => 0, fun _ => 0, fun _ => ⟨#[]⟩⟩, .inl ⟨rfl, fun _ => rfl⟩⟩
  · simp at hcs
    obtain ⟨rfl, rfl, rfl⟩ := hcs
    by_cases h0 : len = 0
    · subst h0
      exact ⟨⟨fun _ => ⟨#[]⟩, fun _ => ⟨#[]⟩, fun _ => 0, fun _ => 0, fun _ => 0, fun _ => ⟨#[]⟩⟩, .inl ⟨rfl, by simp⟩⟩
    · have hlm : len ≤ m := by rw [hm]; split <;> omega
      rw [Yba.cells31] at hx
      obtain ⟨b, off, spot⟩ := a
      have hspot : spot = none := by
        obtain ⟨cs', h1, h2⟩ := hx 0 (by omega)
        obtain ⟨_, hlen, hcell⟩ := World.cells?_some h1
        have hc := hcell 0 (by omega)
        rw [List.getElem?_eq_getElem (by omega)] at hc
        simpa [Addr.add] using World.cell?_spot hc
      subst hspot
      have each : ∀ i, i < len → ∃ r : Rec, (W.cell? ⟨b, off + i * 6, none⟩ = some (.string r.ac) ∧ W.cell? ⟨b, off + i * 6 + 1, none⟩ = some (.string r.nm) ∧ W.cell? ⟨b, off + i * 6 + 2, none⟩ = some (.int .i64 r.sh) ∧
          W.cell? ⟨b, off + i * 6 + 3, none⟩ = some (.int .i64 r.br) ∧ W.cell? ⟨b, off + i * 6 + 4, none⟩ = some (.int .u8 r.ro) ∧ W.cell? ⟨b, off + i * 6 + 5, none⟩ = some (.string r.gr) ∧ 0 ≤ r.ro ∧ r.ro ≤ 255) := by
        intro i hi
        obtain ⟨cs', h1, h2⟩ := hx i (by omega)
        obtain ⟨_, hlen, hcell⟩ := World.cells?_some h1
        obtain ⟨r, rfl, hr⟩ := rec_open h2
        have e : ∀ j, j < 6 → W.cell? ⟨b, off + i * 6 + j, none⟩ = [Value.string r.ac, .string r.nm, .int .i64 r.sh, .int .i64 r.br, .int .u8 r.ro, .string r.gr][j]? := fun j hj => by
          have := hcell j hj
          rw [Deep.add_add] at this
          have hadd : (⟨b, off, none⟩ : Addr).add (i * 6 + j) = ⟨b, off + i * 6 + j, none⟩ := by unfold Addr.add; split <;> simp_all <;> omega
          rwa [hadd] at this
        exact ⟨r, e 0 (by omega), e 1 (by omega), e 2 (by omega), e 3 (by omega), e 4 (by omega), e 5 (by omega), hr⟩
      have hlt : b < W.heap.size := by
        obtain ⟨r, hr, _⟩ := each 0 (by omega)
        exact World.block_lt_of_cell? W _ hr
      have pick : ∃ f : Nat → Rec, ∀ i, i < len → (W.cell? ⟨b, off + i * 6, none⟩ = some (.string (f i).ac) ∧ W.cell? ⟨b, off + i * 6 + 1, none⟩ = some (.string (f i).nm) ∧ W.cell? ⟨b, off + i * 6 + 2, none⟩ = some (.int .i64 (f i).sh) ∧
          W.cell? ⟨b, off + i * 6 + 3, none⟩ = some (.int .i64 (f i).br) ∧ W.cell? ⟨b, off + i * 6 + 4, none⟩ = some (.int .u8 (f i).ro) ∧ W.cell? ⟨b, off + i * 6 + 5, none⟩ = some (.string (f i).gr) ∧ 0 ≤ (f i).ro ∧ (f i).ro ≤ 255) :=
        @Deep.choose_lt Rec ⟨Rec.none⟩ len _ each
      obtain ⟨f, hf⟩ := pick
      exact ⟨⟨fun i => (f i).ac, fun i => (f i).nm, fun i => (f i).sh, fun i => (f i).br, fun i => (f i).ro, fun i => (f i).gr⟩, .inr ⟨b, off, rfl, hlt, hf⟩⟩
end Go.Proofs.Ybulkcwji
