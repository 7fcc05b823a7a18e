/-
  DERIVED. GIVEN WITH THE SEED: THE PROGRAM's TIES (one call each: nine closed facts by the kernel) AND EACH ROW's TIE, after the 31st guide's Derived/Test/Toyas{Tie, Card}.lean. No idea stands in it: it is a product of the set-up. Laid BY PROGRAM, IN A SANDBOX (cutbox-door.mjs). By AI agents, Wed Nov 11 2026. No macro, syntax, notation, axiom, sorry.
-/
import Derived.Test.YbulkatqsDoorRows
import Derived.LaidByTextLater
import Derived.SevenTiedAt
import Derived.LaidSub
import Derived.LaidOnce
namespace Go.Proofs.YbulkatqsDoor
open Go
set_option maxRecDepth 100000
theorem seatTie1 : Ybad.prog.laidByTextLater [("example.com/hollowtree/hollowtree/internal/git.entryTypes", Rows.laid_example_com_hollowtree_hollowtree_internal_git_entryTypes)] [.mapped] true :=
  Program.laidByTextLater_by_one 34 8 2 (by kernel_rfl) (by kernel_rfl) (by kernel_rfl) (by kernel_rfl) (by kernel_rfl) (by kernel_rfl) (fun _ _ => by kernel_rfl)
theorem noOwnUnsafe : Ybad.pinned.checked.prog.headLifts.contains "ownunsafe" = false := by kernel_rfl
theorem tie : Ybad.prog.laidByTextLater [("example.com/hollowtree/hollowtree/internal/git.entryTypes", Rows.laid_example_com_hollowtree_hollowtree_internal_git_entryTypes)] [.mapped] true :=
  Program.laidByTextLater.sub seatTie1 ["example.com/hollowtree/hollowtree/internal/git.entryTypes"] (by kernel_rfl) (by kernel_rfl)
theorem lawS2254BTable_row_tie : Rows.lawS2254BTableRow.laidByTextAt .later Ybad.pinned [.mapped] true :=
  OpenClaim.laidByTextAt_later rfl rfl tie noOwnUnsafe
theorem lawS2254BInverse_row_tie : Rows.lawS2254BInverseRow.laidByTextAt .later Ybad.pinned [.mapped] true :=
  OpenClaim.laidByTextAt_later rfl rfl tie noOwnUnsafe
end Go.Proofs.YbulkatqsDoor
