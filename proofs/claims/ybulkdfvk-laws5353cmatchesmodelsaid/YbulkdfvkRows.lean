/-
  No cell of these rows narrows 'for every input' (looked for: loops, veiled, ifaces, maps, wideKeys, modest, calm, conditions, laid).
  DERIVED. THE GIVEN ROWS OF THIS SEAT. 2 by the template 'for every input the law returns true; each argument reads behind the call as it read before'; 0 by the template 'total and deterministic' (their statements: YbulkdfvkTotals.lean).
  GIVEN WITH THE SEED: the statements are not yours to turn. If you find one false, say at which input.
  Laid BY PROGRAM, IN A SANDBOX (cutbox-rows.mjs): the forced cells as the released guide's own fill.sh prints them over the translation 24e9a70dba5ee084… (all of the seat's roots in one cut). By AI agents, Wed Nov 11 2026. No macro, syntax, notation, axiom, sorry.
-/
import Derived.Test.YbulkdfvkChecked
import GoSem.Claim
import GoSem.ClaimJoined
import GoSem.ClaimMapViews
import Derived.JoinedTies
import Derived.KernelRfl
namespace Go.Proofs.Ybulkdfvk
/- THE CELL 'sum', in the pinned program and in every row, IS THE sha256 OF THE DUMP (.gsa) THAT YbulkdfvkProg.lean LOADS. Nothing in Lean hashes anything: it is a label: what it is worth is what the hold of that sum in a sandbox is worth. -/
noncomputable def Yba.pinned : Pinned := { name := "ybulkdfvk", sum := "24e9a70dba5ee084251810748ecee605225123cb62be6aec5d090df292c02962", checked := Yba.checked }
namespace Rows
def none {H : Type} : Left H := { results := [], args := [] }

/-- 'delivery.LawS5353BPicks': WHATEVER THE INPUT: true; the input reads as it did. -/
def lawS5353BPicksSpec : ChangeSpec := { name := "lawS5353BPicks", fn := fun _ => fun
  | [d1, d2, d3] => { results := [.lit (.bool true)], args := [d1, d2, d3] }
  | _ => none }
def lawS5353BPicksRow : OpenClaim := { program := "ybulkdfvk", sum := "24e9a70dba5ee084251810748ecee605225123cb62be6aec5d090df292c02962", func := "example.com/mqd/mqd/internal/delivery.LawS5353BPicks", spec := "lawS5353BPicks", apart := false }
def LawS5353BPicksSaid : Prop := lawS5353BPicksRow.holds Yba.pinned (OpenSpec.ofChange lawS5353BPicksSpec)

/-- ITS FALSE NEIGHBOUR: 'it returns false'. Refute it at one input. -/
def lawS5353BPicksWrong : ChangeSpec := { name := "lawS5353BPicks", fn := fun _ => fun
  | [d1, d2, d3] => { results := [.lit (.bool false)], args := [d1, d2, d3] }
  | _ => none }
def LawS5353BPicksWrongFalsely : Prop := lawS5353BPicksRow.holds Yba.pinned (OpenSpec.ofChange lawS5353BPicksWrong)

/-- 'broker.LawS5353CMatchesModel': WHATEVER THE INPUT: true; the input reads as it did. -/
def lawS5353CMatchesModelSpec : ChangeSpec := { name := "lawS5353CMatchesModel", fn := fun _ => fun
  | [d1, d2, d3, d4] => { results := [.lit (.bool true)], args := [d1, d2, d3, d4] }
  | _ => none }
def lawS5353CMatchesModelRow : OpenClaim := { program := "ybulkdfvk", sum := "24e9a70dba5ee084251810748ecee605225123cb62be6aec5d090df292c02962", func := "example.com/mqd/mqd/internal/broker.LawS5353CMatchesModel", spec := "lawS5353CMatchesModel", apart := false }
def LawS5353CMatchesModelSaid : Prop := lawS5353CMatchesModelRow.holds Yba.pinned (OpenSpec.ofChange lawS5353CMatchesModelSpec)

/-- ITS FALSE NEIGHBOUR: 'it returns false'. Refute it at one input. -/
def lawS5353CMatchesModelWrong : ChangeSpec := { name := "lawS5353CMatchesModel", fn := fun _ => fun
  | [d1, d2, d3, d4] => { results := [.lit (.bool false)], args := [d1, d2, d3, d4] }
  | _ => none }
def LawS5353CMatchesModelWrongFalsely : Prop := lawS5353CMatchesModelRow.holds Yba.pinned (OpenSpec.ofChange lawS5353CMatchesModelWrong)

end Rows
end Go.Proofs.Ybulkdfvk
