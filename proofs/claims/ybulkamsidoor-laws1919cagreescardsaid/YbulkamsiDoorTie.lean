/-
  DERIVED. GIVEN WITH THE SEED: THE PROGRAM's TIES (one call each: nine closed facts by the kernel) AND EACH ROW's TIE, after the 31st guide's Derived/Test/Toyas{Tie, Card}.lean. No idea stands in it: it is a product of the set-up. Laid BY PROGRAM, IN A SANDBOX (cutbox-door.mjs). By AI agents, Wed Nov 11 2026. No macro, syntax, notation, axiom, sorry.
-/
import Derived.Test.YbulkamsiDoorRows
import Derived.LaidByTextLater
import Derived.SevenTiedAt
import Derived.LaidSub
import Derived.LaidOnce
namespace Go.Proofs.YbulkamsiDoor
open Go
set_option maxRecDepth 100000
theorem seatTie1 : Ybad.prog.laidByTextLater [("example.com/kinledger/kinledger/internal/policy.figures", Rows.laid_example_com_kinledger_kinledger_internal_policy_figures)] [.widerDeep] true :=
  Program.laidByTextLater_by_one 14 8 4 (by kernel_rfl) (by kernel_rfl) (by kernel_rfl) (by kernel_rfl) (by kernel_rfl) (by kernel_rfl) (fun _ _ => by kernel_rfl)
theorem noOwnUnsafe : Ybad.pinned.checked.prog.headLifts.contains "ownunsafe" = false := by kernel_rfl
theorem tie : Ybad.prog.laidByTextLater [("example.com/kinledger/kinledger/internal/policy.figures", Rows.laid_example_com_kinledger_kinledger_internal_policy_figures)] [.widerDeep] true :=
  Program.laidByTextLater.sub seatTie1 ["example.com/kinledger/kinledger/internal/policy.figures"] (by kernel_rfl) (by kernel_rfl)
theorem lawS1919CList_row_tie : Rows.lawS1919CListRow.laidByTextAt .later Ybad.pinned [.widerDeep] true :=
  OpenClaim.laidByTextAt_later rfl rfl tie noOwnUnsafe
theorem lawS1919CAgrees_row_tie : Rows.lawS1919CAgreesRow.laidByTextAt .later Ybad.pinned [.widerDeep] true :=
  OpenClaim.laidByTextAt_later rfl rfl tie noOwnUnsafe
theorem lawS1919CFresh_row_tie : Rows.lawS1919CFreshRow.laidByTextAt .later Ybad.pinned [.widerDeep] true :=
  OpenClaim.laidByTextAt_later rfl rfl tie noOwnUnsafe
end Go.Proofs.YbulkamsiDoor
