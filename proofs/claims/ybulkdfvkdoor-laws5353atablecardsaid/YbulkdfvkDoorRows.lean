/-
  NARROWER THAN 'FOR EVERY INPUT', by the rows' own cells (each row's printed sentence says how): LawS5353ATable: laid.
  DERIVED. THE GIVEN ROWS OF THIS SEAT. 1 by the template 'for every input the law returns true; each argument reads behind the call as it read before'; 0 by the template 'total and deterministic' (their statements: YbulkdfvkDoorTotals.lean).
  GIVEN WITH THE SEED: the statements are not yours to turn. If you find one false, say at which input.
  Laid BY PROGRAM, IN A SANDBOX (cutbox-rows.mjs): the forced cells as the released guide's own fill.sh prints them over the translation 4b98a95b1942d555… (all of the seat's roots in one cut). By AI agents, Wed Nov 11 2026. No macro, syntax, notation, axiom, sorry.
-/
import Derived.Test.YbulkdfvkDoorChecked
import GoSem.Claim
import GoSem.ClaimJoined
import GoSem.ClaimMapViews
import Derived.JoinedTies
import Derived.KernelRfl
namespace Go.Proofs.YbulkdfvkDoor
/- THE CELL 'sum', in the pinned program and in every row, IS THE sha256 OF THE DUMP (.gsa) THAT YbulkdfvkDoorProg.lean LOADS. Nothing in Lean hashes anything: it is a label: what it is worth is what the hold of that sum in a sandbox is worth. -/
noncomputable def Ybad.pinned : Pinned := { name := "ybulkdfvkdoor", sum := "4b98a95b1942d55536d716706dd0c57489b34533935ece8c5ced7a7b744c5994", checked := Ybad.checked }
namespace Rows
def none {H : Type} : Left H := { results := [], args := [] }

/- WHAT THE LISTED PACKAGE-LEVEL VARIABLES READ AS WHEN THE CALL BEGINS. Each datum BY PROGRAM (the guide's laid-datum.mjs) off the statement by which the dump's own 'gosem.cut.vars' lays the variable. In a bare row this is a premise. The card (YbulkdfvkDoorCards.lean) ties it to the program's text. -/
def laid_example_com_mqd_mqd_internal_broker_deathReasons {H : Type} : DataW H := .slice [.lit (.string []), .lit (.string [110, 97, 99, 107, 101, 100]), .lit (.string [116, 105, 109, 101, 100, 95, 111, 117, 116]), .lit (.string [114, 101, 115, 116, 97, 114, 116, 101, 100])] []

/-- 'broker.LawS5353ATable': WHATEVER THE INPUT: true; the input reads as it did. -/
def lawS5353ATableSpec : ChangeSpec := { name := "lawS5353ATable", vars := ["example.com/mqd/mqd/internal/broker.deathReasons"], fn := fun _ => fun
  | [d, g1] => { results := [.lit (.bool true)], args := [d], vars := [g1] }
  | _ => none }
def lawS5353ATableRow : OpenClaim := { program := "ybulkdfvkdoor", sum := "4b98a95b1942d55536d716706dd0c57489b34533935ece8c5ced7a7b744c5994", func := "example.com/mqd/mqd/internal/broker.LawS5353ATable", spec := "lawS5353ATable", named := ["example.com/mqd/mqd/internal/broker.deathReasons"], apart := false, laid := [("example.com/mqd/mqd/internal/broker.deathReasons", laid_example_com_mqd_mqd_internal_broker_deathReasons)] }
def LawS5353ATableSaid : Prop := lawS5353ATableRow.holds Ybad.pinned (OpenSpec.ofChange lawS5353ATableSpec)

/-- ITS FALSE NEIGHBOUR: 'it returns false'. Refute it at one input. -/
def lawS5353ATableWrong : ChangeSpec := { name := "lawS5353ATable", vars := ["example.com/mqd/mqd/internal/broker.deathReasons"], fn := fun _ => fun
  | [d, g1] => { results := [.lit (.bool false)], args := [d], vars := [g1] }
  | _ => none }
def LawS5353ATableWrongFalsely : Prop := lawS5353ATableRow.holds Ybad.pinned (OpenSpec.ofChange lawS5353ATableWrong)

end Rows
end Go.Proofs.YbulkdfvkDoor
