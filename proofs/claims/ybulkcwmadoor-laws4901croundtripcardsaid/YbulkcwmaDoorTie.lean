/-
  DERIVED. GIVEN WITH THE SEED: THE PROGRAM's TIES (one call each: nine closed facts by the kernel) AND EACH ROW's TIE, after the 31st guide's Derived/Test/Toyas{Tie, Card}.lean. No idea stands in it: it is a product of the set-up. Laid BY PROGRAM, IN A SANDBOX (cutbox-door.mjs). By AI agents, Wed Nov 11 2026. No macro, syntax, notation, axiom, sorry.
-/
import Derived.Test.YbulkcwmaDoorRows
import Derived.LaidByTextLater
import Derived.SevenTiedAt
import Derived.LaidSub
import Derived.LaidOnce
namespace Go.Proofs.YbulkcwmaDoor
open Go
set_option maxRecDepth 100000
theorem seatTie1 : Ybad.prog.laidByTextLater [("example.com/equipoise/equipoise/internal/live.errPrefix", Rows.laid_example_com_equipoise_equipoise_internal_live_errPrefix), ("example.com/equipoise/equipoise/internal/live.errShort", Rows.laid_example_com_equipoise_equipoise_internal_live_errShort), ("example.com/equipoise/equipoise/internal/live.errRange", Rows.laid_example_com_equipoise_equipoise_internal_live_errRange)] [.sentinel, .sentinel, .sentinel] true :=
  Program.laidByTextLater_by_one 66 8 2 (by kernel_rfl) (by kernel_rfl) (by kernel_rfl) (by kernel_rfl) (by kernel_rfl) (by kernel_rfl) (fun _ _ => by kernel_rfl)
theorem noOwnUnsafe : Ybad.pinned.checked.prog.headLifts.contains "ownunsafe" = false := by kernel_rfl
theorem tie : Ybad.prog.laidByTextLater [("example.com/equipoise/equipoise/internal/live.errShort", Rows.laid_example_com_equipoise_equipoise_internal_live_errShort), ("example.com/equipoise/equipoise/internal/live.errRange", Rows.laid_example_com_equipoise_equipoise_internal_live_errRange)] [.sentinel, .sentinel] true :=
  Program.laidByTextLater.sub seatTie1 ["example.com/equipoise/equipoise/internal/live.errShort", "example.com/equipoise/equipoise/internal/live.errRange"] (by kernel_rfl) (by kernel_rfl)
theorem lawS4901CRoundTrip_row_tie : Rows.lawS4901CRoundTripRow.laidByTextAt .later Ybad.pinned [.sentinel, .sentinel] true :=
  OpenClaim.laidByTextAt_later rfl rfl tie noOwnUnsafe
theorem tie2 : Ybad.prog.laidByTextLater [("example.com/equipoise/equipoise/internal/live.errPrefix", Rows.laid_example_com_equipoise_equipoise_internal_live_errPrefix), ("example.com/equipoise/equipoise/internal/live.errShort", Rows.laid_example_com_equipoise_equipoise_internal_live_errShort), ("example.com/equipoise/equipoise/internal/live.errRange", Rows.laid_example_com_equipoise_equipoise_internal_live_errRange)] [.sentinel, .sentinel, .sentinel] true :=
  Program.laidByTextLater.sub seatTie1 ["example.com/equipoise/equipoise/internal/live.errPrefix", "example.com/equipoise/equipoise/internal/live.errShort", "example.com/equipoise/equipoise/internal/live.errRange"] (by kernel_rfl) (by kernel_rfl)
theorem lawS4901CModel_row_tie : Rows.lawS4901CModelRow.laidByTextAt .later Ybad.pinned [.sentinel, .sentinel, .sentinel] true :=
  OpenClaim.laidByTextAt_later rfl rfl tie2 noOwnUnsafe
end Go.Proofs.YbulkcwmaDoor
