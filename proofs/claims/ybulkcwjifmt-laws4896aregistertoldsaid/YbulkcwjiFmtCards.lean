/-
  DERIVED. GIVEN WITH THE SEED: THE CARDS: each row of YbulkcwjiFmtRows.lean that lists a variable, with what it lists TIED to the program's text (the seventh form; the later family's looks); each row that meets fmt, with fmt's text TOLD by the authors' own Lean function (tested against real Go, not proved from fmt's source: count such statements apart). THE CARD IS WHAT COUNTS. Prove the row's statement (the work); the ties are given (YbulkcwjiFmtTie.lean); close each card by the builder's one call (the guide's Derived/Test/ToyasCard.lean, 'card_holds'). Laid BY PROGRAM, IN A SANDBOX (cutbox-door.mjs). By AI agents, Wed Nov 11 2026. No macro, syntax, notation, axiom, sorry.
-/
import Derived.Test.YbulkcwjiFmtRows
import GoSem.ClaimSeven
namespace Go.Proofs.YbulkcwjiFmt
namespace Rows

/-- THE TOLD CARD OF 'meeting.LawS4896ARegister'. -/
def lawS4896ARegisterCard : Claim7 := { stood := { row := lawS4896ARegisterRow, standIns := [], harness := (true, "9abb3ba35853a1784d88e318a36c08b0c5c6311aa08f9135ee79c4eb1d84aa82"), looks := false }, told := true, goes := false }
def LawS4896ARegisterToldSaid : Prop := Claim7.holds Ybaf.pinned (.plain (OpenSpec.ofChange lawS4896ARegisterSpec)) lawS4896ARegisterCard
/-- ITS FALSE NEIGHBOUR. Refute it at one input. -/
def LawS4896ARegisterToldWrongFalsely : Prop := Claim7.holds Ybaf.pinned (.plain (OpenSpec.ofChange lawS4896ARegisterWrong)) lawS4896ARegisterCard

/-- THE TOLD CARD OF 'meeting.LawS4896AAnswers'. -/
def lawS4896AAnswersCard : Claim7 := { stood := { row := lawS4896AAnswersRow, standIns := [], harness := (true, "9abb3ba35853a1784d88e318a36c08b0c5c6311aa08f9135ee79c4eb1d84aa82"), looks := false }, told := true, goes := false }
def LawS4896AAnswersToldSaid : Prop := Claim7.holds Ybaf.pinned (.plain (OpenSpec.ofChange lawS4896AAnswersSpec)) lawS4896AAnswersCard
/-- ITS FALSE NEIGHBOUR. Refute it at one input. -/
def LawS4896AAnswersToldWrongFalsely : Prop := Claim7.holds Ybaf.pinned (.plain (OpenSpec.ofChange lawS4896AAnswersWrong)) lawS4896AAnswersCard
end Rows
end Go.Proofs.YbulkcwjiFmt
