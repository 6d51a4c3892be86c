/-
  No cell of these rows narrows 'for every input' (looked for: loops, veiled, ifaces, maps, wideKeys, modest, calm, conditions, laid).
  DERIVED. THE GIVEN ROWS OF THIS SEAT. 2 by the template 'for every input the law returns true; each argument reads behind the call as it read before'; 0 by the template 'total and deterministic' (their statements: YbulkcwjiFmtTotals.lean).
  GIVEN WITH THE SEED: the statements are not yours to turn. If you find one false, say at which input.
  Laid BY PROGRAM, IN A SANDBOX (cutbox-rows.mjs): the forced cells as the released guide's own fill.sh prints them over the translation 401eabfa6ece83d2… (all of the seat's roots in one cut). By AI agents, Wed Nov 11 2026. No macro, syntax, notation, axiom, sorry.
-/
import Derived.Test.YbulkcwjiFmtChecked
import GoSem.Claim
import GoSem.ClaimJoined
import GoSem.ClaimMapViews
import Derived.JoinedTies
import Derived.KernelRfl
namespace Go.Proofs.YbulkcwjiFmt
/- THE CELL 'sum', in the pinned program and in every row, IS THE sha256 OF THE DUMP (.gsa) THAT YbulkcwjiFmtProg.lean LOADS. Nothing in Lean hashes anything: it is a label: what it is worth is what the hold of that sum in a sandbox is worth. -/
noncomputable def Ybaf.pinned : Pinned := { name := "ybulkcwjifmt", sum := "401eabfa6ece83d25dfe3b902c60ddb6d170e2fff0eecacff80270ae47ae3cd4", checked := Ybaf.checked }
namespace Rows
def none {H : Type} : Left H := { results := [], args := [] }

/-- 'meeting.LawS4896ARegister': WHATEVER THE INPUT: true; the input reads as it did. -/
def lawS4896ARegisterSpec : ChangeSpec := { name := "lawS4896ARegister", fn := fun _ => fun
  | [d1, d2] => { results := [.lit (.bool true)], args := [d1, d2] }
  | _ => none }
def lawS4896ARegisterRow : OpenClaim := { program := "ybulkcwjifmt", sum := "401eabfa6ece83d25dfe3b902c60ddb6d170e2fff0eecacff80270ae47ae3cd4", func := "example.com/gavelbook/gavelbook/internal/meeting.LawS4896ARegister", spec := "lawS4896ARegister", stops := ["fmt.errorf"], inPlace := ["fmt.errorf"], unfollowed := true, recurses := true, apart := false }
/-- NO THEOREM (fmt's text is open here; it may be false): for the released tool's asking of the row's closed facts alone. THE STATEMENT IS 'LawS4896ARegisterToldSaid' (YbulkcwjiFmtCards.lean). -/
def LawS4896ARegisterFormAsk : Prop := lawS4896ARegisterRow.holds Ybaf.pinned (OpenSpec.ofChange lawS4896ARegisterSpec)

/-- ITS FALSE NEIGHBOUR: 'it returns false'. Refute it at one input. -/
def lawS4896ARegisterWrong : ChangeSpec := { name := "lawS4896ARegister", fn := fun _ => fun
  | [d1, d2] => { results := [.lit (.bool false)], args := [d1, d2] }
  | _ => none }
def LawS4896ARegisterWrongFormAsk : Prop := lawS4896ARegisterRow.holds Ybaf.pinned (OpenSpec.ofChange lawS4896ARegisterWrong)

/-- 'meeting.LawS4896AAnswers': WHATEVER THE INPUT: true; the input reads as it did. -/
def lawS4896AAnswersSpec : ChangeSpec := { name := "lawS4896AAnswers", fn := fun _ => fun
  | [d1, d2] => { results := [.lit (.bool true)], args := [d1, d2] }
  | _ => none }
def lawS4896AAnswersRow : OpenClaim := { program := "ybulkcwjifmt", sum := "401eabfa6ece83d25dfe3b902c60ddb6d170e2fff0eecacff80270ae47ae3cd4", func := "example.com/gavelbook/gavelbook/internal/meeting.LawS4896AAnswers", spec := "lawS4896AAnswers", stops := ["fmt.errorf"], inPlace := ["fmt.errorf"], unfollowed := true, recurses := true, apart := false }
/-- NO THEOREM (fmt's text is open here; it may be false): for the released tool's asking of the row's closed facts alone. THE STATEMENT IS 'LawS4896AAnswersToldSaid' (YbulkcwjiFmtCards.lean). -/
def LawS4896AAnswersFormAsk : Prop := lawS4896AAnswersRow.holds Ybaf.pinned (OpenSpec.ofChange lawS4896AAnswersSpec)

/-- ITS FALSE NEIGHBOUR: 'it returns false'. Refute it at one input. -/
def lawS4896AAnswersWrong : ChangeSpec := { name := "lawS4896AAnswers", fn := fun _ => fun
  | [d1, d2] => { results := [.lit (.bool false)], args := [d1, d2] }
  | _ => none }
def LawS4896AAnswersWrongFormAsk : Prop := lawS4896AAnswersRow.holds Ybaf.pinned (OpenSpec.ofChange lawS4896AAnswersWrong)

end Rows
end Go.Proofs.YbulkcwjiFmt
