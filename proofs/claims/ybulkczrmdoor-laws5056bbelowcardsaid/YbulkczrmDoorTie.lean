/-
  DERIVED. GIVEN WITH THE SEED: THE PROGRAM's TIES (one call each: nine closed facts by the kernel) AND EACH ROW's TIE, after the 31st guide's Derived/Test/Toyas{Tie, Card}.lean. No idea stands in it: it is a product of the set-up. Laid BY PROGRAM, IN A SANDBOX (cutbox-door.mjs). By AI agents, Wed Nov 11 2026. No macro, syntax, notation, axiom, sorry.
-/
import Derived.Test.YbulkczrmDoorRows
import Derived.LaidByTextLater
import Derived.SevenTiedAt
import Derived.LaidSub
import Derived.LaidOnce
namespace Go.Proofs.YbulkczrmDoor
open Go
set_option maxRecDepth 100000
theorem seatTie1 : Ybad.prog.laidByTextLater [("io.EOF", Rows.laid_io_EOF), ("example.com/broadleaf/broadleaf.pageKinds", Rows.laid_example_com_broadleaf_broadleaf_pageKinds), ("example.com/broadleaf/broadleaf.errPastEnd", Rows.laid_example_com_broadleaf_broadleaf_errPastEnd)] [.sentinel, .data, .sentinel] true :=
  Program.laidByTextLater_by_one 54 8 13 (by kernel_rfl) (by kernel_rfl) (by kernel_rfl) (by kernel_rfl) (by kernel_rfl) (by kernel_rfl) (fun _ _ => by kernel_rfl)
theorem noOwnUnsafe : Ybad.pinned.checked.prog.headLifts.contains "ownunsafe" = false := by kernel_rfl
theorem tie : Ybad.prog.laidByTextLater [("io.EOF", Rows.laid_io_EOF), ("example.com/broadleaf/broadleaf.errPastEnd", Rows.laid_example_com_broadleaf_broadleaf_errPastEnd)] [.sentinel, .sentinel] true :=
  Program.laidByTextLater.sub seatTie1 ["io.EOF", "example.com/broadleaf/broadleaf.errPastEnd"] (by kernel_rfl) (by kernel_rfl)
theorem lawS5056AReads_row_tie : Rows.lawS5056AReadsRow.laidByTextAt .later Ybad.pinned [.sentinel, .sentinel] true :=
  OpenClaim.laidByTextAt_later rfl rfl tie noOwnUnsafe
theorem lawS5056ASpare_row_tie : Rows.lawS5056ASpareRow.laidByTextAt .later Ybad.pinned [.sentinel, .sentinel] true :=
  OpenClaim.laidByTextAt_later rfl rfl tie noOwnUnsafe
theorem tie2 : Ybad.prog.laidByTextLater [("example.com/broadleaf/broadleaf.pageKinds", Rows.laid_example_com_broadleaf_broadleaf_pageKinds)] [.data] true :=
  Program.laidByTextLater.sub seatTie1 ["example.com/broadleaf/broadleaf.pageKinds"] (by kernel_rfl) (by kernel_rfl)
theorem lawS5056BBelow_row_tie : Rows.lawS5056BBelowRow.laidByTextAt .later Ybad.pinned [.data] true :=
  OpenClaim.laidByTextAt_later rfl rfl tie2 noOwnUnsafe
end Go.Proofs.YbulkczrmDoor
