/-
  DERIVED. GIVEN WITH THE SEED: THE PROGRAM's TIES (one call each: nine closed facts by the kernel) AND EACH ROW's TIE, after the 31st guide's Derived/Test/Toyas{Tie, Card}.lean. No idea stands in it: it is a product of the set-up. Laid BY PROGRAM, IN A SANDBOX (cutbox-door.mjs). By AI agents, Wed Nov 11 2026. No macro, syntax, notation, axiom, sorry.
-/
import Derived.Test.YbulkbdvcDoorRows
import Derived.LaidByTextLater
import Derived.SevenTiedAt
import Derived.LaidSub
import Derived.LaidOnce
namespace Go.Proofs.YbulkbdvcDoor
open Go
set_option maxRecDepth 100000
theorem seatTie1 : Ybad.prog.laidByTextLater [("example.com/est-to-utc/est-to-utc/internal/zonehistory.defaultStart", Rows.laid_example_com_est_to_utc_est_to_utc_internal_zonehistory_defaultStart), ("example.com/est-to-utc/est-to-utc/internal/zonehistory.defaultEnd", Rows.laid_example_com_est_to_utc_est_to_utc_internal_zonehistory_defaultEnd)] [.data, .data] true :=
  Program.laidByTextLater_by_one 19 8 6 (by kernel_rfl) (by kernel_rfl) (by kernel_rfl) (by kernel_rfl) (by kernel_rfl) (by kernel_rfl) (fun _ _ => by kernel_rfl)
theorem noOwnUnsafe : Ybad.pinned.checked.prog.headLifts.contains "ownunsafe" = false := by kernel_rfl
theorem tie : Ybad.prog.laidByTextLater [("example.com/est-to-utc/est-to-utc/internal/zonehistory.defaultStart", Rows.laid_example_com_est_to_utc_est_to_utc_internal_zonehistory_defaultStart), ("example.com/est-to-utc/est-to-utc/internal/zonehistory.defaultEnd", Rows.laid_example_com_est_to_utc_est_to_utc_internal_zonehistory_defaultEnd)] [.data, .data] true :=
  Program.laidByTextLater.sub seatTie1 ["example.com/est-to-utc/est-to-utc/internal/zonehistory.defaultStart", "example.com/est-to-utc/est-to-utc/internal/zonehistory.defaultEnd"] (by kernel_rfl) (by kernel_rfl)
theorem lawS2745AStdOnly_row_tie : Rows.lawS2745AStdOnlyRow.laidByTextAt .later Ybad.pinned [.data, .data] true :=
  OpenClaim.laidByTextAt_later rfl rfl tie noOwnUnsafe
theorem lawS2745ADST_row_tie : Rows.lawS2745ADSTRow.laidByTextAt .later Ybad.pinned [.data, .data] true :=
  OpenClaim.laidByTextAt_later rfl rfl tie noOwnUnsafe
end Go.Proofs.YbulkbdvcDoor
