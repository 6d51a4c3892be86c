/-
  Seat b4896aF: what came in, opened.
-/
import Derived.Test.YbulkcwjiFmtLaw
import Derived.ProofKit
import Derived.OpenShut
import Derived.Deep.Slices
namespace Go.Proofs.YbulkcwjiFmt
open Go.ChangeShapes Go.WideShapes Go.ChangeAt Go.RowKit

theorem Ybaf.cells40 : Ybaf.prog.cellsOf 40 = 3 := by kernel_rfl
theorem Ybaf.cells23 : Ybaf.prog.cellsOf 23 = 1 := by kernel_rfl
theorem Ybaf.cells9 : Ybaf.prog.cellsOf 9 = 1 := by kernel_rfl
theorem Ybaf.cells4 : Ybaf.prog.cellsOf 4 = 1 := by kernel_rfl

theorem add_none (b off j : Nat) : (⟨b, off, none⟩ : Addr).add j = ⟨b, off + j, none⟩ := by unfold Addr.add; split <;> simp_all

section
variable {H : Type} {enc : TypeId × Value → H} {W : World} {sp : Nat → Bool} {held : Bool}

theorem strs_open {n : Nat} {v : Value} {x : DataW H × List MemPlace} (h : DataW.trod enc Ybaf.prog W 0 sp held n 23 [v] = some x) :
    ∃ ao len cap f, v = .slice ao len cap ∧ StrsAt W ao len f := by
  rcases Deep.open_slice1 Ybaf.underlying23 Ybaf.cells9 h with ⟨hcs, _⟩ | ⟨a, len, cap, m, fu, V, D, Pl, hcs, _, hl, _, hm, _, hx⟩
  · simp at hcs
    exact ⟨none, 0, 0, fun _ => ⟨#[]⟩, hcs, .inl rfl⟩
  · simp at hcs
    by_cases h0 : len = 0
    · exact ⟨some a, len, cap, fun _ => ⟨#[]⟩, hcs, .inl h0⟩
    · have hlm : len ≤ m := by rw [hm]; split <;> omega
      obtain ⟨b, off, spot⟩ := a
      have hspot : spot = none := by simpa [Addr.add] using World.cell?_spot (hx 0 (by omega)).1
      subst hspot
      have each : ∀ i, i < len → ∃ s : ByteArray, W.cell? ⟨b, off + i, none⟩ = some (.string s) := fun i hi => by
        obtain ⟨h1, h2⟩ := hx i (by omega)
        obtain ⟨s, e, _⟩ := DataW.trod_string Ybaf.underlying9 h2
        simp at e
        rw [add_none, e] at h1
        exact ⟨s, h1⟩
      obtain ⟨f, hf⟩ := @Deep.choose_lt ByteArray ⟨⟨#[]⟩⟩ len _ each
      exact ⟨_, len, cap, f, hcs, .inr ⟨b, off, rfl, World.block_lt_of_cell? W _ (hf 0 (by omega)), hf⟩⟩

theorem bools_open {n len cap : Nat} {ao : Option Addr} {x : DataW H × List MemPlace} (h : DataW.trod enc Ybaf.prog W 0 sp held n 37 [.slice ao len cap] = some x) : ∃ f, BoolsAt W ao len f := by
  rcases Deep.open_slice1 Ybaf.underlying37 Ybaf.cells4 h with ⟨hcs, _⟩ | ⟨a, len', cap', m, fu, V, D, Pl, hcs, _, hl, _, hm, _, hx⟩
  · simp at hcs
    exact ⟨fun _ => false, .inl hcs.2.1⟩
  · simp at hcs
    obtain ⟨rfl, rfl, rfl⟩ := hcs
    by_cases h0 : len = 0
    · exact ⟨fun _ => false, .inl h0⟩
    · have hlm : len ≤ m := by rw [hm]; split <;> omega
      obtain ⟨b, off, spot⟩ := a
      have hspot : spot = none := by simpa [Addr.add] using World.cell?_spot (hx 0 (by omega)).1
      subst hspot
      have each : ∀ i, i < len → ∃ s : Bool, W.cell? ⟨b, off + i, none⟩ = some (.bool s) := fun i hi => by
        obtain ⟨h1, h2⟩ := hx i (by omega)
        obtain ⟨s, e, _⟩ := DataW.trod_bool Ybaf.underlying4 h2
        simp at e
        rw [add_none, e] at h1
        exact ⟨s, h1⟩
      obtain ⟨f, hf⟩ := @Deep.choose_lt Bool ⟨false⟩ len _ each
      exact ⟨f, .inr ⟨b, off, rfl, World.block_lt_of_cell? W _ (hf 0 (by omega)), hf⟩⟩

/-- One proposal as it came in. -/
structure Rec where
  ra : Option Addr
  rl : Nat
  rc : Nat
  rs : Nat → ByteArray
  im : Bool
  ba : Option Addr
  bl : Nat
  bc : Nat
  bs : Nat → ByteArray

theorem rec_open {n : Nat} {cs : List Value} {x : DataW H × List MemPlace} (h : DataW.trod enc Ybaf.prog W 0 sp held n 40 cs = some x) :
    ∃ r : Rec, cs = [.slice r.ra r.rl r.rc, .bool r.im, .slice r.ba r.bl r.bc] ∧ StrsAt W r.ra r.rl r.rs ∧ StrsAt W r.ba r.bl r.bs := by
  obtain ⟨xs, k, hk, hxy, hlen, hxl, hf⟩ := DataW.trod_struct Ybaf.underlying40 h
  rw [Ybaf.cells40] at hlen
  match xs, hxl, cs, hlen with
  | [y0, y1, y2], _, [v0, v1, v2], _ =>
    have g0 := hf 0 _ rfl
    have g1 := hf 1 _ rfl
    have g2 := hf 2 _ rfl
    simp [Ybaf.cells23, Ybaf.cells4] at g0 g1 g2
    obtain ⟨ra, rl, rc, rs, rfl, h0⟩ := strs_open g0
    obtain ⟨im, e, _⟩ := DataW.trod_bool Ybaf.underlying4 g1
    obtain ⟨ba, bl, bc, bs, rfl, h2⟩ := strs_open g2
    simp at e
    subst e
    exact ⟨⟨ra, rl, rc, rs, im, ba, bl, bc, bs⟩, rfl, h0, h2⟩

theorem props_open {n len cap : Nat} {ao : Option Addr} {x : DataW H × List MemPlace} (h : DataW.trod enc Ybaf.prog W 0 sp held n 22 [.slice ao len cap] = some x) : ∃ P A, PropsIn W ao len P A := by
  have nothing : len = 0 → ∃ P A, PropsIn W ao len P A := fun h0 =>
    ⟨⟨fun _ => 0, fun _ _ => ⟨#[]⟩, fun _ => false, fun _ => 0, fun _ _ => ⟨#[]⟩⟩, ⟨fun _ => none, fun _ => 0, fun _ => none, fun _ => 0⟩, .inl h0, fun i hi => absurd hi (by omega)⟩
  rcases Deep.open_slice Ybaf.underlying22 h with ⟨hcs, _⟩ | ⟨a, l, c, m, fu, D, Pl, hcs, _, hl, _, hm, _, hx⟩
  · simp at hcs
    exact nothing hcs.2.1
  · simp at hcs
    obtain ⟨rfl, rfl, rfl⟩ := hcs
    by_cases h0 : len = 0
    · exact nothing h0
    · have hlm : len ≤ m := by rw [hm]; split <;> omega
      rw [Ybaf.cells40] at hx
      obtain ⟨b, off, spot⟩ := a
      have hspot : spot = none := by
        obtain ⟨cs', h1, h2⟩ := hx 0 (by omega)
        obtain ⟨_, hlen, hcell⟩ := World.cells?_some h1
        have hc := hcell 0 (by omega)
        rw [List.getElem?_eq_getElem (by omega)] at hc
        simpa [Addr.add] using World.cell?_spot hc
      subst hspot
      have each : ∀ i, i < len → ∃ r : Rec, (W.cell? ⟨b, off + i * 3, none⟩ = some (.slice r.ra r.rl r.rc) ∧ W.cell? ⟨b, off + i * 3 + 1, none⟩ = some (.bool r.im) ∧ W.cell? ⟨b, off + i * 3 + 2, none⟩ = some (.slice r.ba r.bl r.bc)) ∧
          StrsAt W r.ra r.rl r.rs ∧ StrsAt W r.ba r.bl r.bs := by
        intro i hi
        obtain ⟨cs', h1, h2⟩ := hx i (by omega)
        obtain ⟨_, hlen, hcell⟩ := World.cells?_some h1
        obtain ⟨r, rfl, hr⟩ := rec_open h2
        have e : ∀ j, j < 3 → W.cell? ⟨b, off + i * 3 + j, none⟩ = [Value.slice r.ra r.rl r.rc, .bool r.im, .slice r.ba r.bl r.bc][j]? := fun j hj => by
          have := hcell j hj
          rw [Deep.add_add, add_none] at this
          rwa [Nat.add_assoc]
        exact ⟨r, ⟨e 0 (by omega), e 1 (by omega), e 2 (by omega)⟩, hr⟩
      obtain ⟨f, hf⟩ := @Deep.choose_lt Rec ⟨⟨none, 0, 0, fun _ => ⟨#[]⟩, false, none, 0, 0, fun _ => ⟨#[]⟩⟩⟩ len _ each
      exact ⟨⟨fun i => (f i).rl, fun i => (f i).rs, fun i => (f i).im, fun i => (f i).bl, fun i => (f i).bs⟩, ⟨fun i => (f i).ra, fun i => (f i).rc, fun i => (f i).ba, fun i => (f i).bc⟩,
        .inr ⟨b, off, rfl, World.block_lt_of_cell? W _ (hf 0 (by omega)).1.1, fun i hi => (hf i hi).1⟩, fun i hi => (hf i hi).2⟩
end
end Go.Proofs.YbulkcwjiFmt
