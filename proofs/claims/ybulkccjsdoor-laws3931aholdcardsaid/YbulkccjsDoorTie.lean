/-
  DERIVED. GIVEN WITH THE SEED: THE PROGRAM's TIES (one call each: nine closed facts by the kernel) AND EACH ROW's TIE, after the 31st guide's Derived/Test/Toyas{Tie, Card}.lean. No idea stands in it: it is a product of the set-up. Laid BY PROGRAM, IN A SANDBOX (cutbox-door.mjs). By AI agents, Wed Nov 11 2026. No macro, syntax, notation, axiom, sorry.
-/
import Derived.Test.YbulkccjsDoorRows
import Derived.LaidByTextLater
import Derived.SevenTiedAt
import Derived.LaidSub
import Derived.LaidOnce
namespace Go.Proofs.YbulkccjsDoor
open Go
set_option maxRecDepth 100000
theorem seatTie1 : Ybad.prog.laidByTextLater [("time.utcLoc", Rows.laid_time_utcLoc), ("example.com/cellcrier/cellcrier/cbsp.discriminators", Rows.laid_example_com_cellcrier_cellcrier_cbsp_discriminators), ("example.com/cellcrier/cellcrier/internal/messages.stateNames", Rows.laid_example_com_cellcrier_cellcrier_internal_messages_stateNames)] [.wider, .data, .widerDeep] true :=
  Program.laidByTextLater_by_one 31 8 29 (by kernel_rfl) (by kernel_rfl) (by kernel_rfl) (by kernel_rfl) (by kernel_rfl) (by kernel_rfl) (fun _ _ => by kernel_rfl)
theorem noOwnUnsafe : Ybad.pinned.checked.prog.headLifts.contains "ownunsafe" = false := by kernel_rfl
theorem tie : Ybad.prog.laidByTextLater [("example.com/cellcrier/cellcrier/cbsp.discriminators", Rows.laid_example_com_cellcrier_cellcrier_cbsp_discriminators)] [.data] true :=
  Program.laidByTextLater.sub seatTie1 ["example.com/cellcrier/cellcrier/cbsp.discriminators"] (by kernel_rfl) (by kernel_rfl)
theorem lawS3931AHold_row_tie : Rows.lawS3931AHoldRow.laidByTextAt .later Ybad.pinned [.data] true :=
  OpenClaim.laidByTextAt_later rfl rfl tie noOwnUnsafe
theorem tie2 : Ybad.prog.laidByTextLater [("time.utcLoc", Rows.laid_time_utcLoc), ("example.com/cellcrier/cellcrier/internal/messages.stateNames", Rows.laid_example_com_cellcrier_cellcrier_internal_messages_stateNames)] [.wider, .widerDeep] true :=
  Program.laidByTextLater.sub seatTie1 ["time.utcLoc", "example.com/cellcrier/cellcrier/internal/messages.stateNames"] (by kernel_rfl) (by kernel_rfl)
theorem lawS3931CExact_row_tie : Rows.lawS3931CExactRow.laidByTextAt .later Ybad.pinned [.wider, .widerDeep] true :=
  OpenClaim.laidByTextAt_later rfl rfl tie2 noOwnUnsafe
theorem lawS3931CFresh_row_tie : Rows.lawS3931CFreshRow.laidByTextAt .later Ybad.pinned [.wider, .widerDeep] true :=
  OpenClaim.laidByTextAt_later rfl rfl tie2 noOwnUnsafe
end Go.Proofs.YbulkccjsDoor
