/-
  DERIVED. GIVEN WITH THE SEED: THE PROGRAM's TIES (one call each: nine closed facts by the kernel) AND EACH ROW's TIE, after the 31st guide's Derived/Test/Toyas{Tie, Card}.lean. No idea stands in it: it is a product of the set-up. Laid BY PROGRAM, IN A SANDBOX (cutbox-door.mjs). By AI agents, Wed Nov 11 2026. No macro, syntax, notation, axiom, sorry.
-/
import Derived.Test.YbulkbyskDoorRows
import Derived.LaidByTextLater
import Derived.SevenTiedAt
import Derived.LaidSub
import Derived.LaidOnce
namespace Go.Proofs.YbulkbyskDoor
open Go
set_option maxRecDepth 100000
theorem seatTie1 : Ybad.prog.laidByTextLater [("example.com/flashhook/flashhook/call.supervisors", Rows.laid_example_com_flashhook_flashhook_call_supervisors), ("example.com/flashhook/flashhook/call.defaults", Rows.laid_example_com_flashhook_flashhook_call_defaults)] [.mappedDeep, .mapped] true :=
  Program.laidByTextLater_by_one 103 8 2 (by kernel_rfl) (by kernel_rfl) (by kernel_rfl) (by kernel_rfl) (by kernel_rfl) (by kernel_rfl) (fun _ _ => by kernel_rfl)
theorem noOwnUnsafe : Ybad.pinned.checked.prog.headLifts.contains "ownunsafe" = false := by kernel_rfl
theorem tie : Ybad.prog.laidByTextLater [("example.com/flashhook/flashhook/call.supervisors", Rows.laid_example_com_flashhook_flashhook_call_supervisors), ("example.com/flashhook/flashhook/call.defaults", Rows.laid_example_com_flashhook_flashhook_call_defaults)] [.mappedDeep, .mapped] true :=
  Program.laidByTextLater.sub seatTie1 ["example.com/flashhook/flashhook/call.supervisors", "example.com/flashhook/flashhook/call.defaults"] (by kernel_rfl) (by kernel_rfl)
theorem lawS3754BOne_row_tie : Rows.lawS3754BOneRow.laidByTextAt .later Ybad.pinned [.mappedDeep, .mapped] true :=
  OpenClaim.laidByTextAt_later rfl rfl tie noOwnUnsafe
theorem lawS3754BTwo_row_tie : Rows.lawS3754BTwoRow.laidByTextAt .later Ybad.pinned [.mappedDeep, .mapped] true :=
  OpenClaim.laidByTextAt_later rfl rfl tie noOwnUnsafe
end Go.Proofs.YbulkbyskDoor
