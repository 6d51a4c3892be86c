/-
  Seat b4901aD: what came in, opened: the marks, the bytes, the sentinels.
-/
import Derived.Test.YbulkcwmaDoorTrip
import Derived.ProofKit
import Derived.OpenShut
import Derived.ShutString
import Derived.ChangeOld
import Derived.Below
import Derived.WalkSmall
import Derived.Deep.Slices
import Derived.LaidMore
import Derived.Stop.LaidErr
import Derived.Stop.Joined
namespace Go.Proofs.YbulkcwmaDoor
open Go.ChangeShapes Go.WideShapes Go.ChangeAt Go.RowKit

theorem Ybad.own : ownKnob Ybad.prog.godebug = none := by kernel_rfl
theorem Ybad.laidOut : laidOutB Ybad.prog = true := by kernel_rfl
theorem Ybad.cells27 : Ybad.prog.cellsOf 27 = 4 := by kernel_rfl
theorem Ybad.cells25 : Ybad.prog.cellsOf 25 = 1 := by kernel_rfl
theorem Ybad.cells4 : Ybad.prog.cellsOf 4 = 1 := by kernel_rfl
theorem Ybad.cells5 : Ybad.prog.cellsOf 5 = 1 := by kernel_rfl

theorem u64_nat {z : Int} (h : (Lit.int .u64 z).wf = true) : ∃ n : Nat, z = n ∧ n < 18446744073709551616 := by
  have := bounds_u64 h
  exact ⟨z.toNat, by omega, by omega⟩

theorem mark_open {H : Type} {enc : TypeId × Value → H} {W : World} {base : Nat} {sp : Nat → Bool} {held : Bool} {n : Nat} {cs : List Value} {x : DataW H × List MemPlace}
    (h : DataW.trod enc Ybad.prog W base sp held n 27 cs = some x) :
    ∃ r : Mk, cs = [.int .u64 r.peer, .int .u64 r.inc, .int .u64 r.seq, .bool r.kept] ∧ MkOk r := by
  obtain ⟨xs, k, hk, hxy, hlen, hxl, hf⟩ := DataW.trod_struct Ybad.underlying27 h
  rw [Ybad.cells27] at hlen
  match xs, hxl, cs, hlen with
  | [y0, y1, y2, y3], _, [v0, v1, v2, v3], _ =>
    have g0 := hf 0 _ rfl
    have g1 := hf 1 _ rfl
    have g2 := hf 2 _ rfl
    have g3 := hf 3 _ rfl
    simp [Ybad.cells25, Ybad.cells4] at g0 g1 g2 g3
    obtain ⟨a, ea, _, wa⟩ := DataW.trod_int Ybad.underlying25 g0
    obtain ⟨b, eb, _, wb⟩ := DataW.trod_int Ybad.underlying25 g1
    obtain ⟨c, ec, _, wc⟩ := DataW.trod_int Ybad.underlying25 g2
    obtain ⟨d, ed, _⟩ := DataW.trod_bool Ybad.underlying4 g3
    simp at ea eb ec ed
    subst ea eb ec ed
    obtain ⟨a, rfl, ha⟩ := u64_nat wa
    obtain ⟨b, rfl, hb⟩ := u64_nat wb
    obtain ⟨c, rfl, hc⟩ := u64_nat wc
    exact ⟨⟨a, b, c, d⟩, rfl, ha, hb, hc⟩

theorem marks_open {H : Type} {enc : TypeId × Value → H} {W : World} {sp : Nat → Bool} {held : Bool} {n : Nat} {x : DataW H × List MemPlace} {ao : Option Addr} {len cap : Nat}
    (h : DataW.trod enc Ybad.prog W 0 sp held n 22 [.slice ao len cap] = some x) : ∃ M, MsIn W ao len M := by
  rcases Deep.open_slice Ybad.underlying22 h with ⟨hcs, _⟩ | ⟨a, l, c, m, fu, D, Pl, hcs, _, hl, _, hm, _, hx⟩
  · simp at hcs
    obtain ⟨rfl, rfl, rfl⟩ := hcs
    exact ⟨fun _ => ⟨0, 0, 0, false⟩, .inl rfl, fun i hi => by omega⟩
  · simp at hcs
    obtain ⟨rfl, rfl, rfl⟩ := hcs
    by_cases h0 : len = 0
    · subst h0
      exact ⟨fun _ => ⟨0, 0, 0, false⟩, .inl rfl, fun i hi => by omega⟩
    · have hlm : len ≤ m := by rw [hm]; split <;> omega
      rw [Ybad.cells27] at hx
      obtain ⟨b, off, spot⟩ := a
      have hspot : spot = none := by
        obtain ⟨cs', h1, h2⟩ := hx 0 (by omega)
        obtain ⟨_, hlen, hcell⟩ := World.cells?_some h1
        have hc := hcell 0 (by omega)
        rw [List.getElem?_eq_getElem (by omega)] at hc
        simpa [Addr.add] using World.cell?_spot hc
      subst hspot
      have each : ∀ i, i < len → ∃ r : Mk, (W.cell? ⟨b, off + i * 4, none⟩ = some (.int .u64 r.peer) ∧ W.cell? ⟨b, off + i * 4 + 1, none⟩ = some (.int .u64 r.inc) ∧ W.cell? ⟨b, off + i * 4 + 2, none⟩ = some (.int .u64 r.seq) ∧
          W.cell? ⟨b, off + i * 4 + 3, none⟩ = some (.bool r.kept)) ∧ MkOk r := by
        intro i hi
        obtain ⟨cs', h1, h2⟩ := hx i (by omega)
        obtain ⟨_, hlen, hcell⟩ := World.cells?_some h1
        obtain ⟨r, rfl, hr⟩ := mark_open h2
        have e : ∀ j, j < 4 → W.cell? ⟨b, off + i * 4 + j, none⟩ = [Value.int .u64 r.peer, .int .u64 r.inc, .int .u64 r.seq, .bool r.kept][j]? := fun j hj => by
          have := hcell j hj
          rw [Deep.add_add] at this
          have hadd : (⟨b, off, none⟩ : Addr).add (i * 4 + j) = ⟨b, off + i * 4 + j, none⟩ := by unfold Addr.add; split <;> simp_all <;> omega
          rwa [hadd] at this
        exact ⟨r, ⟨e 0 (by omega), e 1 (by omega), e 2 (by omega), e 3 (by omega)⟩, hr⟩
      have hlt : b < W.heap.size := by
        obtain ⟨r, hr, _⟩ := each 0 (by omega)
        exact World.block_lt_of_cell? W _ hr.1
      obtain ⟨f, hf⟩ := @Deep.choose_lt Mk ⟨⟨0, 0, 0, false⟩⟩ len _ each
      exact ⟨f, .inr ⟨b, off, rfl, hlt, fun i hi => (hf i hi).1⟩, fun i hi => (hf i hi).2⟩

theorem bytes_open {H : Type} {enc : TypeId × Value → H} {W : World} {sp : Nat → Bool} {held : Bool} {n : Nat} {x : DataW H × List MemPlace} {ao : Option Addr} {len cap : Nat}
    (h : DataW.trod enc Ybad.prog W 0 sp held n 23 [.slice ao len cap] = some x) : ∃ t : List UInt8, len = t.length ∧ BysAt W ao t ∧ (ao = none → cap = 0) ∧ len ≤ cap ∧ cap ≤ maxLen := by
  rcases open_ints Ybad.underlying23 Ybad.underlying5 Ybad.cells5 h with ⟨hcs, _⟩ | ⟨a, l, c, zs, hcs, _, hl, hm, hz, _, hcell, hwz⟩
  · simp at hcs
    obtain ⟨rfl, rfl, rfl⟩ := hcs
    exact ⟨[], rfl, .inl rfl, fun _ => rfl, Nat.le_refl _, Nat.zero_le _⟩
  · simp at hcs
    obtain ⟨rfl, rfl, rfl⟩ := hcs
    have hlz : len ≤ zs.length := by rw [hz]; split <;> omega
    refine ⟨(zs.take len).map fun z => UInt8.ofNat z.toNat, by simp; omega, ?_, by simp, hl, hm⟩
    by_cases h0 : len = 0
    · left; subst h0; rfl
    right
    obtain ⟨b, off, spot⟩ := a
    have hspot : spot = none := by
      have := hcell 0 (by omega)
      simpa [Addr.add] using World.cell?_spot this
    subst hspot
    refine ⟨b, off, rfl, ?_, fun j hj => ?_⟩
    · have := World.block_lt_of_cell? W _ (hcell 0 (by omega))
      simpa [Addr.add] using this
    · simp at hj
      have hj2 : j < zs.length := by omega
      have hc := hcell j hj2
      have hb := bounds_u8 (hwz zs[j] (List.getElem_mem hj2))
      rw [add_none] at hc
      rw [hc]
      simp [List.getD, List.getElem?_eq_getElem hj2]
      have : (UInt8.ofNat zs[j].toNat).toNat = zs[j].toNat := by
        rw [UInt8.toNat_ofNat']
        exact Nat.mod_eq_of_lt (by omega)
      omega

/-! ### The sentinels -/
/-- The name of the errors' own type, off the listed datum. -/
def eName : String := match (Rows.laid_example_com_equipoise_equipoise_internal_live_errShort : DataW Unit) with
  | .iface n _ => n
  | _ => ""
theorem Ybad.row52 (u : TypeId) (h : Ybad.prog.typeName? 3 u = some eName) : u = 52 := by
  refine typeName_ptr_named (nm := "errors.errorString") ?_ (by kernel_rfl) (by decide) u (h.trans (by decide))
  generalize hs : (_ ++ _ : String) = s
  obtain rfl : eName = s := Eq.trans (by decide) hs
  kernel_rfl
theorem Ybad.cells71 : Ybad.prog.cellsOf 71 = 1 := by kernel_rfl
theorem Ybad.cells9 : Ybad.prog.cellsOf 9 = 1 := by kernel_rfl
theorem Ybad.gType0 : (Ybad.prog.globals[0]?).map (·.type) = some 30 := by kernel_rfl
theorem Ybad.gType1 : (Ybad.prog.globals[1]?).map (·.type) = some 30 := by kernel_rfl
theorem Ybad.gType2 : (Ybad.prog.globals[2]?).map (·.type) = some 30 := by kernel_rfl
/-- The names of the three variables. -/
def nmP : String := Rows.lawS4901CModelSpec.vars.getD 0 ""
def nmS : String := Rows.lawS4901CModelSpec.vars.getD 1 ""
def nmR : String := Rows.lawS4901CModelSpec.vars.getD 2 ""
theorem Ybad.g0 : Ybad.prog.globalNamed nmP = some 0 := by kernel_rfl
theorem Ybad.g1 : Ybad.prog.globalNamed nmS = some 1 := by kernel_rfl
theorem Ybad.g2 : Ybad.prog.globalNamed nmR = some 2 := by kernel_rfl

theorem sentinel {n nm : String} {text : List UInt8} {r : List (String × DataW Unit)} {W : World} {g : Nat}
    (h : laidMet Ybad.prog ((n, .iface eName (.ptr (.agg [.lit (.string text)]))) :: r) W) (hn : n = nm)
    (hg : Ybad.prog.globalNamed nm = some g) (ht : (Ybad.prog.globals[g]?).map (·.type) = some 30) :
    ∃ z : TypeId × Value, W.var? Ybad.prog nm = some #[.iface z.1 z.2] ∧ W.cell? ⟨g, 0, none⟩ = some (.iface z.1 z.2) ∧ z.1 = 52 ∧ ∃ a, z.2 = .pointer (some a) := by
  subst hn
  obtain ⟨a, s, hv, _⟩ := laid_sentinel h hg ht Ybad.underlying30 Ybad.row52 Ybad.underlying52 Ybad.underlying71 rfl rfl Ybad.underlying9 Ybad.cells71 Ybad.cells9
  exact ⟨⟨52, .pointer (some a)⟩, hv, by simpa using World.var?_cell hg hv 0, rfl, a, rfl⟩
end Go.Proofs.YbulkcwmaDoor
