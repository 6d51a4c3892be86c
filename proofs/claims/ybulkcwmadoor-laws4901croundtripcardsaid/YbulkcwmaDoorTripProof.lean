/-
  Seat b4901aD: 'Rows.LawS4901CRoundTripSaid' and her tied card, proved.
-/
import Derived.Test.YbulkcwmaDoorOpen
import Derived.Test.YbulkcwmaDoorTie
import Derived.Test.YbulkcwmaDoorCards
import Derived.SevenTiedAt
namespace Go.Proofs.YbulkcwmaDoor.lawTrip
open Go.ChangeShapes Go.WideShapes Go.ChangeAt Go.RowKit
open Go.Proofs.YbulkcwmaDoor

/-- The door's own heap meets the condition. -/
theorem door_met (os : Os) (args : Array Value) : laidMetH Ybad.prog Rows.lawS4901CRoundTripRow.laid ((World.doorLaid Ybad.prog 66 os).forCall (fun _ _ => 0) ⟨#[], args, []⟩).memory :=
  laidMetH_of_parts3 (fuel := 8) (laidMet_of_run' 8 (by kernel_rfl) (by kernel_rfl)) (by kernel_rfl) (by kernel_rfl)

theorem of_laid {W : World} (h : laidMetH Ybad.prog Rows.lawS4901CRoundTripRow.laid W) :
    (∃ z : TypeId × Value, W.var? Ybad.prog nmS = some #[.iface z.1 z.2] ∧ W.cell? ⟨1, 0, none⟩ = some (.iface z.1 z.2) ∧ z.1 = 52 ∧ ∃ a, z.2 = .pointer (some a)) ∧
    (∃ z : TypeId × Value, W.var? Ybad.prog nmR = some #[.iface z.1 z.2] ∧ W.cell? ⟨2, 0, none⟩ = some (.iface z.1 z.2) ∧ z.1 = 52 ∧ ∃ a, z.2 = .pointer (some a)) := by
  rw [MakeChecks.laidMetH_plain _ _ _ (by kernel_rfl)] at h
  exact ⟨sentinel h rfl Ybad.g1 Ybad.gType1, sentinel (laidMet.tail h) rfl Ybad.g2 Ybad.gType2⟩

set_option maxRecDepth 100000 in
theorem lifted (os : Os) (started : os.Started) (H : Type) (enc : TypeId × Value → H) :
    ReturnsInHanded {} Ybad.checked os 3 .any (fun w args => (Rows.lawS4901CRoundTripSpec.pre enc Ybad.prog Ybad.f3 [] false w args ∧ laidMetH Ybad.prog Rows.lawS4901CRoundTripRow.laid w) ∧ sizedMet enc Ybad.prog Ybad.f3 (OpenSpec.ofChange Rows.lawS4901CRoundTripSpec) false w args)
      (Rows.lawS4901CRoundTripSpec.post enc Ybad.prog Ybad.f3 false true false false) := by
  refine returnsInHanded_of_change_and (C := Ybad.checked) (X := fun w _ => laidMetH Ybad.prog Rows.lawS4901CRoundTripRow.laid w) (fun _ _ _ hh h => h.of_heap hh) Ybad.own started (by kernel_rfl) Ybad.func3
    (ChangeSpec.witness_shaped (enc := enc) (C := Ybad.checked) (os := os) (X := fun w _ => laidMetH Ybad.prog Rows.lawS4901CRoundTripRow.laid w) false (World.doorLaid Ybad.prog 66 os) #[.slice none 0 0, .slice none 0 0] 8 rfl (World.shaped_of_RefB (by kernel_rfl) (by kernel_rfl)) (by kernel_rfl) (by kernel_rfl) (by kernel_rfl) (door_met os _)) ?_
  intro W base args ds gs before hval0 hW _ _ hL _
  have hval : ∀ (j : Nat) t v, Ybad.f3.params[j]? = some t → args[j]? = some v → Value.okWide Ybad.prog W .any base t v := hval0
  have hW' := hW
  obtain ⟨p, q, hA0, hV0, rfl, hfz, hnd⟩ := hW
  have hA : DataW.TrodAll enc Ybad.prog W 0 (fun _ => true) true Ybad.f3.params.toList args.toList ds p := hA0
  have hV : DataW.TrodVars enc Ybad.prog W (fun _ => true) [nmS, nmR] gs q := hV0
  rw [Ybad.params3] at hA hval
  obtain ⟨v0, vs0, d0, ds0, p0, q0, hargs, rfl, rfl, h0, r0⟩ := trodAll_cons hA
  obtain ⟨v1, vs1, d1, ds1, p1, q1, hargs1, rfl, rfl, h1, r1⟩ := trodAll_cons r0
  obtain ⟨rfl, rfl, rfl⟩ := trodAll_nil r1
  subst hargs1
  obtain rfl : args = #[v0, v1] := by cases args; simp_all
  obtain ⟨⟨z, vz, cz, _, _⟩, ⟨y, vy, cy, _, _⟩⟩ := of_laid hL
  obtain ⟨rfl, rfl⟩ := hV.unique (vars_read2 enc Ybad.g1 Ybad.gType1 Ybad.underlying30 vz trivial Ybad.g2 Ybad.gType2 Ybad.underlying30 vy trivial _)
  obtain ⟨a0, len0, cap0, rfl⟩ := okWide_slice Ybad.underlying22 (hval 0 22 v0 rfl rfl)
  obtain ⟨a1, len1, cap1, rfl⟩ := okWide_slice Ybad.underlying23 (hval 1 23 v1 rfl rfl)
  have k0 := h0
  have k1 := h1
  have lt0 : ∀ x ∈ p0, x.block < W.heap.size := by obtain ⟨m, hm⟩ := k0; exact DataW.trod_lt m _ _ _ hm
  have lt1 : ∀ x ∈ p1, x.block < W.heap.size := by obtain ⟨m, hm⟩ := k1; exact DataW.trod_lt m _ _ _ hm
  obtain ⟨M, hM⟩ : ∃ M, MsIn W a0 len0 M := by
    obtain ⟨fuel, hf⟩ := h0
    exact marks_open (by simpa [Value.cells] using hf)
  obtain ⟨t, ht, hT, hTn, _⟩ : ∃ t : List UInt8, len1 = t.length ∧ BysAt W a1 t ∧ (a1 = none → cap1 = 0) ∧ len1 ≤ cap1 ∧ cap1 ≤ maxLen := by
    obtain ⟨fuel, hf⟩ := h1
    exact bytes_open (by simpa [Value.cells] using hf)
  subst ht
  clear hA0 hval0 hV0
  have s1 : 1 < W.heap.size := World.block_lt_of_cell? W _ cz
  have s2 : 2 < W.heap.size := World.block_lt_of_cell? W _ cy
  refine (trip_any a0 a1 len0 cap0 cap1 M t z y W hM hT hTn cz cy).mono fun e W' ⟨he, bel⟩ => ?_
  subst he
  exact ⟨_, rfl, _, _, _, [], _, [.cell 1 0, .cell 2 0], hW', trodAll_mk1 (shut_bool Ybad.underlying4 _),
    trodAll_mk2 (Below.trod Ybad.laidOut (by kernel_rfl) (of_decide_eq_true (by kernel_rfl)) k0 bel lt0) (Below.trod Ybad.laidOut (by kernel_rfl) (of_decide_eq_true (by kernel_rfl)) k1 bel lt1),
    vars_read2 enc Ybad.g1 Ybad.gType1 Ybad.underlying30 (var?_below bel Ybad.g1 s1 vz) trivial Ybad.g2 Ybad.gType2 Ybad.underlying30 (var?_below bel Ybad.g2 s2 vy) trivial _, bel.frame _, fun h => by cases h⟩

theorem over : Rows.LawS4901CRoundTripSaid :=
  OpenClaim.holds_of_wide 3 Ybad.f3 rfl rfl rfl rfl rfl rfl rfl ⟨rfl, rfl, rfl, rfl, rfl⟩ rfl rfl rfl rfl rfl (by kernel_rfl) Ybad.func3 (by kernel_rfl)
    (of_decide_eq_true (by kernel_rfl)) (by unfold Func.isWrapper; first | (rw [if_pos (by decide +kernel)]; kernel_rfl) | (rw [if_neg (by decide +kernel)]; exact ⟨rfl, rfl⟩))
    (fun os started H enc _ => lifted os started H enc)

/-- THE STATEMENT: the tied card. -/
theorem proved : Rows.LawS4901CRoundTripCardSaid :=
  Claim7.holds_tied_plain_at .later [] [.sentinel, .sentinel] true (true, "c8a7f4007ba469fbb6f703f508db1cbf70e760a52a88fdfd2f804ea667626c40") true
    over (fun _ h => by cases h) (by kernel_rfl) (fun _ h => by cases h) lawS4901CRoundTrip_row_tie rfl ⟨rfl, rfl⟩ (by kernel_rfl) rfl
    (fun f fn hf hfn => by
      obtain rfl : f = 3 := Option.some.inj ((show Ybad.prog.funcNamed Rows.lawS4901CRoundTripRow.func = some 3 by kernel_rfl).symm.trans hf) |>.symm
      obtain rfl : fn = Ybad.f3 := (Option.some.inj (Ybad.func3.symm.trans hfn)).symm
      exact ⟨by kernel_rfl, fun j t ht => by
        rw [Ybad.params3] at ht
        rcases j with _ | _ | j
        · obtain rfl : t = 22 := by simpa using ht.symm
          exact (show Ybad.prog.wantsStandIn 22 = false by kernel_rfl)
        · obtain rfl : t = 23 := by simpa using ht.symm
          exact (show Ybad.prog.wantsStandIn 23 = false by kernel_rfl)
        · simp at ht⟩)
    (by kernel_rfl)
#print axioms proved
end Go.Proofs.YbulkcwmaDoor.lawTrip
