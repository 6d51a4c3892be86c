/-
  DERIVED. GIVEN WITH THE SEED: THE CARDS: each row of YbulkcwmaDoorRows.lean that lists a variable, with what it lists TIED to the program's text (the seventh form; the later family's looks); each row that meets fmt, with fmt's text TOLD by the authors' own Lean function (tested against real Go, not proved from fmt's source: count such statements apart). THE CARD IS WHAT COUNTS. Prove the row's statement (the work); the ties are given (YbulkcwmaDoorTie.lean); close each card by the builder's one call (the guide's Derived/Test/ToyasCard.lean, 'card_holds'). Laid BY PROGRAM, IN A SANDBOX (cutbox-door.mjs). By AI agents, Wed Nov 11 2026. No macro, syntax, notation, axiom, sorry.
-/
import Derived.Test.YbulkcwmaDoorRows
import GoSem.ClaimSeven
namespace Go.Proofs.YbulkcwmaDoor
namespace Rows

/-- THE TIED CARD OF 'live.LawS4901CRoundTrip'. -/
def lawS4901CRoundTripCard : Claim7 := { stood := { row := lawS4901CRoundTripRow, standIns := [], harness := (true, "c8a7f4007ba469fbb6f703f508db1cbf70e760a52a88fdfd2f804ea667626c40"), looks := true }, kinds := [], alts := [], laidByText := true, laidKinds := [.sentinel, .sentinel], laidTests := true, laidLooks := .later }
def LawS4901CRoundTripCardSaid : Prop := Claim7.holds Ybad.pinned (.plain (OpenSpec.ofChange lawS4901CRoundTripSpec)) lawS4901CRoundTripCard

/-- THE TIED CARD OF 'live.LawS4901CModel'. -/
def lawS4901CModelCard : Claim7 := { stood := { row := lawS4901CModelRow, standIns := [], harness := (true, "c8a7f4007ba469fbb6f703f508db1cbf70e760a52a88fdfd2f804ea667626c40"), looks := true }, kinds := [], alts := [], laidByText := true, laidKinds := [.sentinel, .sentinel, .sentinel], laidTests := true, laidLooks := .later }
def LawS4901CModelCardSaid : Prop := Claim7.holds Ybad.pinned (.plain (OpenSpec.ofChange lawS4901CModelSpec)) lawS4901CModelCard
end Rows
end Go.Proofs.YbulkcwmaDoor
