/-
  DERIVED. GIVEN WITH THE SEED: THE PROGRAM's TIES (one call each: nine closed facts by the kernel) AND EACH ROW's TIE, after the 31st guide's Derived/Test/Toyas{Tie, Card}.lean. No idea stands in it: it is a product of the set-up. Laid BY PROGRAM, IN A SANDBOX (cutbox-door.mjs). By AI agents, Wed Nov 11 2026. No macro, syntax, notation, axiom, sorry.
-/
import Derived.Test.YbulkdxawDoorRows
import Derived.LaidByTextLater
import Derived.SevenTiedAt
import Derived.LaidSub
import Derived.LaidOnce
namespace Go.Proofs.YbulkdxawDoor
open Go
set_option maxRecDepth 100000
theorem seatTie1 : Ybad.prog.laidByTextLater [("example.com/gapkeeper/gapkeeper/internal/lock.coveredBy", Rows.laid_example_com_gapkeeper_gapkeeper_internal_lock_coveredBy)] [.data] true :=
  Program.laidByTextLater_by_one 14 8 5 (by kernel_rfl) (by kernel_rfl) (by kernel_rfl) (by kernel_rfl) (by kernel_rfl) (by kernel_rfl) (fun _ _ => by kernel_rfl)
theorem noOwnUnsafe : Ybad.pinned.checked.prog.headLifts.contains "ownunsafe" = false := by kernel_rfl
theorem tie : Ybad.prog.laidByTextLater [("example.com/gapkeeper/gapkeeper/internal/lock.coveredBy", Rows.laid_example_com_gapkeeper_gapkeeper_internal_lock_coveredBy)] [.data] true :=
  Program.laidByTextLater.sub seatTie1 ["example.com/gapkeeper/gapkeeper/internal/lock.coveredBy"] (by kernel_rfl) (by kernel_rfl)
theorem lawS6184BWhole_row_tie : Rows.lawS6184BWholeRow.laidByTextAt .later Ybad.pinned [.data] true :=
  OpenClaim.laidByTextAt_later rfl rfl tie noOwnUnsafe
end Go.Proofs.YbulkdxawDoor
