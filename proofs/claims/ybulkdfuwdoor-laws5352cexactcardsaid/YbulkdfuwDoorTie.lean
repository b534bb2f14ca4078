/-
  DERIVED. GIVEN WITH THE SEED: THE PROGRAM's TIES (one call each: nine closed facts by the kernel) AND EACH ROW's TIE, after the 31st guide's Derived/Test/Toyas{Tie, Card}.lean. No idea stands in it: it is a product of the set-up. Laid BY PROGRAM, IN A SANDBOX (cutbox-door.mjs). By AI agents, Wed Nov 11 2026. No macro, syntax, notation, axiom, sorry.
-/
import Derived.Test.YbulkdfuwDoorRows
import Derived.LaidByTextLater
import Derived.SevenTiedAt
import Derived.LaidSub
import Derived.LaidOnce
namespace Go.Proofs.YbulkdfuwDoor
open Go
set_option maxRecDepth 100000
theorem seatTie1 : Ybad.prog.laidByTextLater [("example.com/tuoguan/tuoguan/pkg/decimal.powersOfTen", Rows.laid_example_com_tuoguan_tuoguan_pkg_decimal_powersOfTen)] [.called] true :=
  Program.laidByTextLater_by_one 531 8 20 (by kernel_rfl) (by kernel_rfl) (by kernel_rfl) (by kernel_rfl) (by kernel_rfl) (by kernel_rfl) (fun _ _ => by kernel_rfl)
theorem noOwnUnsafe : Ybad.pinned.checked.prog.headLifts.contains "ownunsafe" = false := by kernel_rfl
theorem tie : Ybad.prog.laidByTextLater [("example.com/tuoguan/tuoguan/pkg/decimal.powersOfTen", Rows.laid_example_com_tuoguan_tuoguan_pkg_decimal_powersOfTen)] [.called] true :=
  Program.laidByTextLater.sub seatTie1 ["example.com/tuoguan/tuoguan/pkg/decimal.powersOfTen"] (by kernel_rfl) (by kernel_rfl)
theorem lawS5352CExact_row_tie : Rows.lawS5352CExactRow.laidByTextAt .later Ybad.pinned [.called] true :=
  OpenClaim.laidByTextAt_later rfl rfl tie noOwnUnsafe
theorem lawS5352CUndo_row_tie : Rows.lawS5352CUndoRow.laidByTextAt .later Ybad.pinned [.called] true :=
  OpenClaim.laidByTextAt_later rfl rfl tie noOwnUnsafe
end Go.Proofs.YbulkdfuwDoor
