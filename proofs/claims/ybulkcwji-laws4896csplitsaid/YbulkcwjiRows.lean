/-
  No cell of these rows narrows 'for every input' (looked for: loops, veiled, ifaces, maps, wideKeys, modest, calm, conditions, laid).
  DERIVED. THE GIVEN ROWS OF THIS SEAT. 2 by the template 'for every input the law returns true; each argument reads behind the call as it read before'; 0 by the template 'total and deterministic' (their statements: YbulkcwjiTotals.lean).
  GIVEN WITH THE SEED: the statements are not yours to turn. If you find one false, say at which input.
  Laid BY PROGRAM, IN A SANDBOX (cutbox-rows.mjs): the forced cells as the released guide's own fill.sh prints them over the translation 8c62df1e9904bd74… (all of the seat's roots in one cut). By AI agents, Wed Nov 11 2026. No macro, syntax, notation, axiom, sorry.
-/
import Derived.Test.YbulkcwjiChecked
import GoSem.Claim
import GoSem.ClaimJoined
import GoSem.ClaimMapViews
import Derived.JoinedTies
import Derived.KernelRfl
namespace Go.Proofs.Ybulkcwji
/- THE CELL 'sum', in the pinned program and in every row, IS THE sha256 OF THE DUMP (.gsa) THAT YbulkcwjiProg.lean LOADS. Nothing in Lean hashes anything: it is a label: what it is worth is what the hold of that sum in a sandbox is worth. -/
noncomputable def Yba.pinned : Pinned := { name := "ybulkcwji", sum := "8c62df1e9904bd74ceb9674d5688d9e58b2719b68e2351b553dd57c1bc4d4f25", checked := Yba.checked }
namespace Rows
def none {H : Type} : Left H := { results := [], args := [] }

/-- 'register.LawS4896CModel': WHATEVER THE INPUT: true; the input reads as it did. -/
def lawS4896CModelSpec : ChangeSpec := { name := "lawS4896CModel", fn := fun _ => fun
  | [d] => { results := [.lit (.bool true)], args := [d] }
  | _ => none }
def lawS4896CModelRow : OpenClaim := { program := "ybulkcwji", sum := "8c62df1e9904bd74ceb9674d5688d9e58b2719b68e2351b553dd57c1bc4d4f25", func := "example.com/gavelbook/gavelbook/internal/register.LawS4896CModel", spec := "lawS4896CModel", apart := false }
def LawS4896CModelSaid : Prop := lawS4896CModelRow.holds Yba.pinned (OpenSpec.ofChange lawS4896CModelSpec)

/-- ITS FALSE NEIGHBOUR: 'it returns false'. Refute it at one input. -/
def lawS4896CModelWrong : ChangeSpec := { name := "lawS4896CModel", fn := fun _ => fun
  | [d] => { results := [.lit (.bool false)], args := [d] }
  | _ => none }
def LawS4896CModelWrongFalsely : Prop := lawS4896CModelRow.holds Yba.pinned (OpenSpec.ofChange lawS4896CModelWrong)

/-- 'register.LawS4896CSplit': WHATEVER THE INPUT: true; the input reads as it did. -/
def lawS4896CSplitSpec : ChangeSpec := { name := "lawS4896CSplit", fn := fun _ => fun
  | [d] => { results := [.lit (.bool true)], args := [d] }
  | _ => none }
def lawS4896CSplitRow : OpenClaim := { program := "ybulkcwji", sum := "8c62df1e9904bd74ceb9674d5688d9e58b2719b68e2351b553dd57c1bc4d4f25", func := "example.com/gavelbook/gavelbook/internal/register.LawS4896CSplit", spec := "lawS4896CSplit", apart := false }
def LawS4896CSplitSaid : Prop := lawS4896CSplitRow.holds Yba.pinned (OpenSpec.ofChange lawS4896CSplitSpec)

/-- ITS FALSE NEIGHBOUR: 'it returns false'. Refute it at one input. -/
def lawS4896CSplitWrong : ChangeSpec := { name := "lawS4896CSplit", fn := fun _ => fun
  | [d] => { results := [.lit (.bool false)], args := [d] }
  | _ => none }
def LawS4896CSplitWrongFalsely : Prop := lawS4896CSplitRow.holds Yba.pinned (OpenSpec.ofChange lawS4896CSplitWrong)

end Rows
end Go.Proofs.Ybulkcwji
