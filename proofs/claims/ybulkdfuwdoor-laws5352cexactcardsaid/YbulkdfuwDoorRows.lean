/-
  NARROWER THAN 'FOR EVERY INPUT', by the rows' own cells (each row's printed sentence says how): LawS5352CExact: laid · LawS5352CUndo: laid.
  DERIVED. THE GIVEN ROWS OF THIS SEAT. 2 by the template 'for every input the law returns true; each argument reads behind the call as it read before'; 0 by the template 'total and deterministic' (their statements: YbulkdfuwDoorTotals.lean).
  GIVEN WITH THE SEED: the statements are not yours to turn. If you find one false, say at which input.
  Laid BY PROGRAM, IN A SANDBOX (cutbox-rows.mjs): the forced cells as the released guide's own fill.sh prints them over the translation dc1a58f7ecdc34e2… (all of the seat's roots in one cut). By AI agents, Wed Nov 11 2026. No macro, syntax, notation, axiom, sorry.
-/
import Derived.Test.YbulkdfuwDoorChecked
import GoSem.Claim
import GoSem.ClaimJoined
import GoSem.ClaimMapViews
import Derived.JoinedTies
import Derived.KernelRfl
namespace Go.Proofs.YbulkdfuwDoor
/- THE CELL 'sum', in the pinned program and in every row, IS THE sha256 OF THE DUMP (.gsa) THAT YbulkdfuwDoorProg.lean LOADS. Nothing in Lean hashes anything: it is a label: what it is worth is what the hold of that sum in a sandbox is worth. -/
noncomputable def Ybad.pinned : Pinned := { name := "ybulkdfuwdoor", sum := "dc1a58f7ecdc34e237a86b9312ef950be976007774473d55335eb42e18c549e3", checked := Ybad.checked }
namespace Rows
def none {H : Type} : Left H := { results := [], args := [] }

/- WHAT THE LISTED PACKAGE-LEVEL VARIABLES READ AS WHEN THE CALL BEGINS. Each datum BY PROGRAM (the guide's laid-datum.mjs) off the statement by which the dump's own 'gosem.cut.vars' lays the variable. In a bare row this is a premise. The card (YbulkdfuwDoorCards.lean) ties it to the program's text. -/
def laid_example_com_tuoguan_tuoguan_pkg_decimal_powersOfTen {H : Type} : DataW H := .agg [.lit (.int .i64 1), .lit (.int .i64 10), .lit (.int .i64 100), .lit (.int .i64 1000), .lit (.int .i64 10000), .lit (.int .i64 100000), .lit (.int .i64 1000000), .lit (.int .i64 10000000), .lit (.int .i64 100000000), .lit (.int .i64 1000000000), .lit (.int .i64 10000000000), .lit (.int .i64 100000000000), .lit (.int .i64 1000000000000), .lit (.int .i64 10000000000000), .lit (.int .i64 100000000000000), .lit (.int .i64 1000000000000000), .lit (.int .i64 10000000000000000), .lit (.int .i64 100000000000000000), .lit (.int .i64 1000000000000000000)]

/-- 'decimal.LawS5352CExact': WHATEVER THE INPUT: true; the input reads as it did. -/
def lawS5352CExactSpec : ChangeSpec := { name := "lawS5352CExact", vars := ["example.com/tuoguan/tuoguan/pkg/decimal.powersOfTen"], fn := fun _ => fun
  | [d1, d2, g1] => { results := [.lit (.bool true)], args := [d1, d2], vars := [g1] }
  | _ => none }
def lawS5352CExactRow : OpenClaim := { program := "ybulkdfuwdoor", sum := "dc1a58f7ecdc34e237a86b9312ef950be976007774473d55335eb42e18c549e3", func := "example.com/tuoguan/tuoguan/pkg/decimal.LawS5352CExact", spec := "lawS5352CExact", named := ["example.com/tuoguan/tuoguan/pkg/decimal.powersOfTen"], apart := false, laid := [("example.com/tuoguan/tuoguan/pkg/decimal.powersOfTen", laid_example_com_tuoguan_tuoguan_pkg_decimal_powersOfTen)] }
def LawS5352CExactSaid : Prop := lawS5352CExactRow.holds Ybad.pinned (OpenSpec.ofChange lawS5352CExactSpec)

/-- ITS FALSE NEIGHBOUR: 'it returns false'. Refute it at one input. -/
def lawS5352CExactWrong : ChangeSpec := { name := "lawS5352CExact", vars := ["example.com/tuoguan/tuoguan/pkg/decimal.powersOfTen"], fn := fun _ => fun
  | [d1, d2, g1] => { results := [.lit (.bool false)], args := [d1, d2], vars := [g1] }
  | _ => none }
def LawS5352CExactWrongFalsely : Prop := lawS5352CExactRow.holds Ybad.pinned (OpenSpec.ofChange lawS5352CExactWrong)

/-- 'decimal.LawS5352CUndo': WHATEVER THE INPUT: true; the input reads as it did. -/
def lawS5352CUndoSpec : ChangeSpec := { name := "lawS5352CUndo", vars := ["example.com/tuoguan/tuoguan/pkg/decimal.powersOfTen"], fn := fun _ => fun
  | [d1, d2, g1] => { results := [.lit (.bool true)], args := [d1, d2], vars := [g1] }
  | _ => none }
def lawS5352CUndoRow : OpenClaim := { program := "ybulkdfuwdoor", sum := "dc1a58f7ecdc34e237a86b9312ef950be976007774473d55335eb42e18c549e3", func := "example.com/tuoguan/tuoguan/pkg/decimal.LawS5352CUndo", spec := "lawS5352CUndo", named := ["example.com/tuoguan/tuoguan/pkg/decimal.powersOfTen"], apart := false, laid := [("example.com/tuoguan/tuoguan/pkg/decimal.powersOfTen", laid_example_com_tuoguan_tuoguan_pkg_decimal_powersOfTen)] }
def LawS5352CUndoSaid : Prop := lawS5352CUndoRow.holds Ybad.pinned (OpenSpec.ofChange lawS5352CUndoSpec)

/-- ITS FALSE NEIGHBOUR: 'it returns false'. Refute it at one input. -/
def lawS5352CUndoWrong : ChangeSpec := { name := "lawS5352CUndo", vars := ["example.com/tuoguan/tuoguan/pkg/decimal.powersOfTen"], fn := fun _ => fun
  | [d1, d2, g1] => { results := [.lit (.bool false)], args := [d1, d2], vars := [g1] }
  | _ => none }
def LawS5352CUndoWrongFalsely : Prop := lawS5352CUndoRow.holds Ybad.pinned (OpenSpec.ofChange lawS5352CUndoWrong)

end Rows
end Go.Proofs.YbulkdfuwDoor
