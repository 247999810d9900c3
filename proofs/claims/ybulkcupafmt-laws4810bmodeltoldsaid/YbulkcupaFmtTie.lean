/-
  DERIVED. GIVEN WITH THE SEED: THE PROGRAM's TIES (one call each: nine closed facts by the kernel) AND EACH ROW's TIE, after the 31st guide's Derived/Test/Toyas{Tie, Card}.lean. No idea stands in it: it is a product of the set-up. Laid BY PROGRAM, IN A SANDBOX (cutbox-door.mjs). By AI agents, Wed Nov 11 2026. No macro, syntax, notation, axiom, sorry.
-/
import Derived.Test.YbulkcupaFmtRows
import Derived.LaidByTextLater
import Derived.SevenTiedAt
import Derived.LaidSub
import Derived.LaidOnce
namespace Go.Proofs.YbulkcupaFmt
open Go
set_option maxRecDepth 100000
theorem seatTie1 : Ybaf.prog.laidByTextLater [("errors.errorType", Rows.laid_errors_errorType), ("example.com/corelay/corelay/pkg/bssgp.plmnDigitOctet", Rows.laid_example_com_corelay_corelay_pkg_bssgp_plmnDigitOctet)] [.handle, .data] true :=
  Program.laidByTextLater_by_one 21 8 7 (by kernel_rfl) (by kernel_rfl) (by kernel_rfl) (by kernel_rfl) (by kernel_rfl) (by kernel_rfl) (fun _ _ => by kernel_rfl)
theorem noOwnUnsafe : Ybaf.pinned.checked.prog.headLifts.contains "ownunsafe" = false := by kernel_rfl
theorem tie : Ybaf.prog.laidByTextLater [("errors.errorType", Rows.laid_errors_errorType), ("example.com/corelay/corelay/pkg/bssgp.plmnDigitOctet", Rows.laid_example_com_corelay_corelay_pkg_bssgp_plmnDigitOctet)] [.handle, .data] true :=
  Program.laidByTextLater.sub seatTie1 ["errors.errorType", "example.com/corelay/corelay/pkg/bssgp.plmnDigitOctet"] (by kernel_rfl) (by kernel_rfl)
theorem lawS4810BModel_row_tie : Rows.lawS4810BModelRow.laidByTextAt .later Ybaf.pinned [.handle, .data] true :=
  OpenClaim.laidByTextAt_later rfl rfl tie noOwnUnsafe
theorem lawS4810BAnyBytes_row_tie : Rows.lawS4810BAnyBytesRow.laidByTextAt .later Ybaf.pinned [.handle, .data] true :=
  OpenClaim.laidByTextAt_later rfl rfl tie noOwnUnsafe
end Go.Proofs.YbulkcupaFmt
