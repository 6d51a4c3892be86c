/-
  NARROWER THAN 'FOR EVERY INPUT', by the rows' own cells (each row's printed sentence says how): LawS4901CRoundTrip: ifaces, laid · LawS4901CModel: ifaces, laid.
  DERIVED. THE GIVEN ROWS OF THIS SEAT. 2 by the template 'for every input the law returns true; each argument reads behind the call as it read before'; 0 by the template 'total and deterministic' (their statements: YbulkcwmaDoorTotals.lean).
  GIVEN WITH THE SEED: the statements are not yours to turn. If you find one false, say at which input.
  Laid BY PROGRAM, IN A SANDBOX (cutbox-rows.mjs): the forced cells as the released guide's own fill.sh prints them over the translation 33717dc2da9e08c3… (all of the seat's roots in one cut). By AI agents, Wed Nov 11 2026. No macro, syntax, notation, axiom, sorry.
-/
import Derived.Test.YbulkcwmaDoorChecked
import GoSem.Claim
import GoSem.ClaimJoined
import GoSem.ClaimMapViews
import Derived.JoinedTies
import Derived.KernelRfl
namespace Go.Proofs.YbulkcwmaDoor
/- THE CELL 'sum', in the pinned program and in every row, IS THE sha256 OF THE DUMP (.gsa) THAT YbulkcwmaDoorProg.lean LOADS. Nothing in Lean hashes anything: it is a label: what it is worth is what the hold of that sum in a sandbox is worth. -/
noncomputable def Ybad.pinned : Pinned := { name := "ybulkcwmadoor", sum := "33717dc2da9e08c3491999b9390f6d95c80db464f3f35c2a4b2b635c16ef5449", checked := Ybad.checked }
namespace Rows
def none {H : Type} : Left H := { results := [], args := [] }

/- WHAT THE LISTED PACKAGE-LEVEL VARIABLES READ AS WHEN THE CALL BEGINS. Each datum BY PROGRAM (the guide's laid-datum.mjs) off the statement by which the dump's own 'gosem.cut.vars' lays the variable. In a bare row this is a premise. The card (YbulkcwmaDoorCards.lean) ties it to the program's text. -/
def laid_example_com_equipoise_equipoise_internal_live_errShort {H : Type} : DataW H := .iface "*errors.errorString" (.ptr (.agg [.lit (.string [97, 32, 102, 105, 101, 108, 100, 32, 114, 117, 110, 115, 32, 112, 97, 115, 116, 32, 116, 104, 101, 32, 101, 110, 100, 32, 111, 102, 32, 116, 104, 101, 32, 100, 97, 116, 97, 103, 114, 97, 109])]))
def laid_example_com_equipoise_equipoise_internal_live_errRange {H : Type} : DataW H := .iface "*errors.errorString" (.ptr (.agg [.lit (.string [97, 32, 102, 105, 101, 108, 100, 32, 105, 115, 32, 111, 117, 116, 32, 111, 102, 32, 114, 97, 110, 103, 101])]))
def laid_example_com_equipoise_equipoise_internal_live_errPrefix {H : Type} : DataW H := .iface "*errors.errorString" (.ptr (.agg [.lit (.string [110, 111, 116, 32, 97, 110, 32, 101, 113, 117, 105, 112, 111, 105, 115, 101, 32, 100, 97, 116, 97, 103, 114, 97, 109, 44, 32, 111, 114, 32, 100, 97, 109, 97, 103, 101, 100])]))

/-- 'live.LawS4901CRoundTrip': WHATEVER THE INPUT: true; the input reads as it did. -/
def lawS4901CRoundTripSpec : ChangeSpec := { name := "lawS4901CRoundTrip", vars := ["example.com/equipoise/equipoise/internal/live.errShort", "example.com/equipoise/equipoise/internal/live.errRange"], fn := fun _ => fun
  | [d1, d2, g1, g2] => { results := [.lit (.bool true)], args := [d1, d2], vars := [g1, g2] }
  | _ => none }
def lawS4901CRoundTripRow : OpenClaim := { program := "ybulkcwmadoor", sum := "33717dc2da9e08c3491999b9390f6d95c80db464f3f35c2a4b2b635c16ef5449", func := "example.com/equipoise/equipoise/internal/live.LawS4901CRoundTrip", spec := "lawS4901CRoundTrip", named := ["example.com/equipoise/equipoise/internal/live.errShort", "example.com/equipoise/equipoise/internal/live.errRange"], ifaces := true, apart := false, laid := [("example.com/equipoise/equipoise/internal/live.errShort", laid_example_com_equipoise_equipoise_internal_live_errShort), ("example.com/equipoise/equipoise/internal/live.errRange", laid_example_com_equipoise_equipoise_internal_live_errRange)] }
def LawS4901CRoundTripSaid : Prop := lawS4901CRoundTripRow.holds Ybad.pinned (OpenSpec.ofChange lawS4901CRoundTripSpec)

/-- ITS FALSE NEIGHBOUR: 'it returns false'. Refute it at one input. -/
def lawS4901CRoundTripWrong : ChangeSpec := { name := "lawS4901CRoundTrip", vars := ["example.com/equipoise/equipoise/internal/live.errShort", "example.com/equipoise/equipoise/internal/live.errRange"], fn := fun _ => fun
  | [d1, d2, g1, g2] => { results := [.lit (.bool false)], args := [d1, d2], vars := [g1, g2] }
  | _ => none }
def LawS4901CRoundTripWrongFalsely : Prop := lawS4901CRoundTripRow.holds Ybad.pinned (OpenSpec.ofChange lawS4901CRoundTripWrong)

/-- 'live.LawS4901CModel': WHATEVER THE INPUT: true; the input reads as it did. -/
def lawS4901CModelSpec : ChangeSpec := { name := "lawS4901CModel", vars := ["example.com/equipoise/equipoise/internal/live.errPrefix", "example.com/equipoise/equipoise/internal/live.errShort", "example.com/equipoise/equipoise/internal/live.errRange"], fn := fun _ => fun
  | [d1, d2, g1, g2, g3] => { results := [.lit (.bool true)], args := [d1, d2], vars := [g1, g2, g3] }
  | _ => none }
def lawS4901CModelRow : OpenClaim := { program := "ybulkcwmadoor", sum := "33717dc2da9e08c3491999b9390f6d95c80db464f3f35c2a4b2b635c16ef5449", func := "example.com/equipoise/equipoise/internal/live.LawS4901CModel", spec := "lawS4901CModel", named := ["example.com/equipoise/equipoise/internal/live.errPrefix", "example.com/equipoise/equipoise/internal/live.errShort", "example.com/equipoise/equipoise/internal/live.errRange"], ifaces := true, apart := false, laid := [("example.com/equipoise/equipoise/internal/live.errPrefix", laid_example_com_equipoise_equipoise_internal_live_errPrefix), ("example.com/equipoise/equipoise/internal/live.errShort", laid_example_com_equipoise_equipoise_internal_live_errShort), ("example.com/equipoise/equipoise/internal/live.errRange", laid_example_com_equipoise_equipoise_internal_live_errRange)] }
def LawS4901CModelSaid : Prop := lawS4901CModelRow.holds Ybad.pinned (OpenSpec.ofChange lawS4901CModelSpec)

/-- ITS FALSE NEIGHBOUR: 'it returns false'. Refute it at one input. -/
def lawS4901CModelWrong : ChangeSpec := { name := "lawS4901CModel", vars := ["example.com/equipoise/equipoise/internal/live.errPrefix", "example.com/equipoise/equipoise/internal/live.errShort", "example.com/equipoise/equipoise/internal/live.errRange"], fn := fun _ => fun
  | [d1, d2, g1, g2, g3] => { results := [.lit (.bool false)], args := [d1, d2], vars := [g1, g2, g3] }
  | _ => none }
def LawS4901CModelWrongFalsely : Prop := lawS4901CModelRow.holds Ybad.pinned (OpenSpec.ofChange lawS4901CModelWrong)

end Rows
end Go.Proofs.YbulkcwmaDoor
