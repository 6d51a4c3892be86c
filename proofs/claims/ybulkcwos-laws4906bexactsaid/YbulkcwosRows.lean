/-
  No cell of these rows narrows 'for every input' (looked for: loops, veiled, ifaces, maps, wideKeys, modest, calm, conditions, laid).
  DERIVED. THE GIVEN ROWS OF THIS SEAT. 2 by the template 'for every input the law returns true; each argument reads behind the call as it read before'; 0 by the template 'total and deterministic' (their statements: YbulkcwosTotals.lean).
  GIVEN WITH THE SEED: the statements are not yours to turn. If you find one false, say at which input.
  Laid BY PROGRAM, IN A SANDBOX (cutbox-rows.mjs): the forced cells as the released guide's own fill.sh prints them over the translation 253ea54dce3e6621… (all of the seat's roots in one cut). By AI agents, Wed Nov 11 2026. No macro, syntax, notation, axiom, sorry.
-/
import Derived.Test.YbulkcwosChecked
import GoSem.Claim
import GoSem.ClaimJoined
import GoSem.ClaimMapViews
import Derived.JoinedTies
import Derived.KernelRfl
namespace Go.Proofs.Ybulkcwos
/- THE CELL 'sum', in the pinned program and in every row, IS THE sha256 OF THE DUMP (.gsa) THAT YbulkcwosProg.lean LOADS. Nothing in Lean hashes anything: it is a label: what it is worth is what the hold of that sum in a sandbox is worth. -/
noncomputable def Yba.pinned : Pinned := { name := "ybulkcwos", sum := "253ea54dce3e6621ed150342d546854eb6725fdfe138c9f8a3cd4291dbe060b4", checked := Yba.checked }
namespace Rows
def none {H : Type} : Left H := { results := [], args := [] }

/-- 'wire.LawS4906BExact': WHATEVER THE INPUT: true; the input reads as it did. -/
def lawS4906BExactSpec : ChangeSpec := { name := "lawS4906BExact", fn := fun _ => fun
  | [d1, d2, d3, d4, d5, d6] => { results := [.lit (.bool true)], args := [d1, d2, d3, d4, d5, d6] }
  | _ => none }
def lawS4906BExactRow : OpenClaim := { program := "ybulkcwos", sum := "253ea54dce3e6621ed150342d546854eb6725fdfe138c9f8a3cd4291dbe060b4", func := "example.com/bindstream/bindstream/internal/wire.LawS4906BExact", spec := "lawS4906BExact", apart := false }
def LawS4906BExactSaid : Prop := lawS4906BExactRow.holds Yba.pinned (OpenSpec.ofChange lawS4906BExactSpec)

/-- ITS FALSE NEIGHBOUR: 'it returns false'. Refute it at one input. -/
def lawS4906BExactWrong : ChangeSpec := { name := "lawS4906BExact", fn := fun _ => fun
  | [d1, d2, d3, d4, d5, d6] => { results := [.lit (.bool false)], args := [d1, d2, d3, d4, d5, d6] }
  | _ => none }
def LawS4906BExactWrongFalsely : Prop := lawS4906BExactRow.holds Yba.pinned (OpenSpec.ofChange lawS4906BExactWrong)

/-- 'wire.LawS4906BIdem': WHATEVER THE INPUT: true; the input reads as it did. -/
def lawS4906BIdemSpec : ChangeSpec := { name := "lawS4906BIdem", fn := fun _ => fun
  | [d1, d2, d3, d4, d5, d6] => { results := [.lit (.bool true)], args := [d1, d2, d3, d4, d5, d6] }
  | _ => none }
def lawS4906BIdemRow : OpenClaim := { program := "ybulkcwos", sum := "253ea54dce3e6621ed150342d546854eb6725fdfe138c9f8a3cd4291dbe060b4", func := "example.com/bindstream/bindstream/internal/wire.LawS4906BIdem", spec := "lawS4906BIdem", apart := false }
def LawS4906BIdemSaid : Prop := lawS4906BIdemRow.holds Yba.pinned (OpenSpec.ofChange lawS4906BIdemSpec)

/-- ITS FALSE NEIGHBOUR: 'it returns false'. Refute it at one input. -/
def lawS4906BIdemWrong : ChangeSpec := { name := "lawS4906BIdem", fn := fun _ => fun
  | [d1, d2, d3, d4, d5, d6] => { results := [.lit (.bool false)], args := [d1, d2, d3, d4, d5, d6] }
  | _ => none }
def LawS4906BIdemWrongFalsely : Prop := lawS4906BIdemRow.holds Yba.pinned (OpenSpec.ofChange lawS4906BIdemWrong)

end Rows
end Go.Proofs.Ybulkcwos
