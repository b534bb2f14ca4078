/-
  No cell of these rows narrows 'for every input' (looked for: loops, veiled, ifaces, maps, wideKeys, modest, calm, conditions, laid).
  DERIVED. THE GIVEN ROWS OF THIS SEAT. 5 by the template 'for every input the law returns true; each argument reads behind the call as it read before'; 0 by the template 'total and deterministic' (their statements: YbulkdftgTotals.lean).
  GIVEN WITH THE SEED: the statements are not yours to turn. If you find one false, say at which input.
  Laid BY PROGRAM, IN A SANDBOX (cutbox-rows.mjs): the forced cells as the released guide's own fill.sh prints them over the translation ce6644ee9237d1cd… (all of the seat's roots in one cut). By AI agents, Wed Nov 11 2026. No macro, syntax, notation, axiom, sorry.
-/
import Derived.Test.YbulkdftgChecked
import GoSem.Claim
import GoSem.ClaimJoined
import GoSem.ClaimMapViews
import Derived.JoinedTies
import Derived.KernelRfl
namespace Go.Proofs.Ybulkdftg
/- THE CELL 'sum', in the pinned program and in every row, IS THE sha256 OF THE DUMP (.gsa) THAT YbulkdftgProg.lean LOADS. Nothing in Lean hashes anything: it is a label: what it is worth is what the hold of that sum in a sandbox is worth. -/
noncomputable def Yba.pinned : Pinned := { name := "ybulkdftg", sum := "ce6644ee9237d1cd90237e6f406a7d1a5c33810f9671afd516c43a1daa238441", checked := Yba.checked }
namespace Rows
def none {H : Type} : Left H := { results := [], args := [] }

/-- 'exactum.LawS5349AExact': WHATEVER THE INPUT: true; the input reads as it did. -/
def lawS5349AExactSpec : ChangeSpec := { name := "lawS5349AExact", fn := fun _ => fun
  | [d1, d2] => { results := [.lit (.bool true)], args := [d1, d2] }
  | _ => none }
def lawS5349AExactRow : OpenClaim := { program := "ybulkdftg", sum := "ce6644ee9237d1cd90237e6f406a7d1a5c33810f9671afd516c43a1daa238441", func := "example.com/exactum/exactum.LawS5349AExact", spec := "lawS5349AExact", apart := false }
def LawS5349AExactSaid : Prop := lawS5349AExactRow.holds Yba.pinned (OpenSpec.ofChange lawS5349AExactSpec)

/-- ITS FALSE NEIGHBOUR: 'it returns false'. Refute it at one input. -/
def lawS5349AExactWrong : ChangeSpec := { name := "lawS5349AExact", fn := fun _ => fun
  | [d1, d2] => { results := [.lit (.bool false)], args := [d1, d2] }
  | _ => none }
def LawS5349AExactWrongFalsely : Prop := lawS5349AExactRow.holds Yba.pinned (OpenSpec.ofChange lawS5349AExactWrong)

/-- 'exactum.LawS5349AMirror': WHATEVER THE INPUT: true; the input reads as it did. -/
def lawS5349AMirrorSpec : ChangeSpec := { name := "lawS5349AMirror", fn := fun _ => fun
  | [d1, d2] => { results := [.lit (.bool true)], args := [d1, d2] }
  | _ => none }
def lawS5349AMirrorRow : OpenClaim := { program := "ybulkdftg", sum := "ce6644ee9237d1cd90237e6f406a7d1a5c33810f9671afd516c43a1daa238441", func := "example.com/exactum/exactum.LawS5349AMirror", spec := "lawS5349AMirror", apart := false }
def LawS5349AMirrorSaid : Prop := lawS5349AMirrorRow.holds Yba.pinned (OpenSpec.ofChange lawS5349AMirrorSpec)

/-- ITS FALSE NEIGHBOUR: 'it returns false'. Refute it at one input. -/
def lawS5349AMirrorWrong : ChangeSpec := { name := "lawS5349AMirror", fn := fun _ => fun
  | [d1, d2] => { results := [.lit (.bool false)], args := [d1, d2] }
  | _ => none }
def LawS5349AMirrorWrongFalsely : Prop := lawS5349AMirrorRow.holds Yba.pinned (OpenSpec.ofChange lawS5349AMirrorWrong)

/-- 'exactum.LawS5349BValue': WHATEVER THE INPUT: true; the input reads as it did. -/
def lawS5349BValueSpec : ChangeSpec := { name := "lawS5349BValue", fn := fun _ => fun
  | [d1, d2, d3] => { results := [.lit (.bool true)], args := [d1, d2, d3] }
  | _ => none }
def lawS5349BValueRow : OpenClaim := { program := "ybulkdftg", sum := "ce6644ee9237d1cd90237e6f406a7d1a5c33810f9671afd516c43a1daa238441", func := "example.com/exactum/exactum.LawS5349BValue", spec := "lawS5349BValue", inPlace := ["math/big.lshVU", "math/big.addVV", "math/bits.Add64", "math/big.subVV", "math/bits.Sub64"], recurses := true, apart := false }
def LawS5349BValueSaid : Prop := lawS5349BValueRow.holds Yba.pinned (OpenSpec.ofChange lawS5349BValueSpec)

/-- ITS FALSE NEIGHBOUR: 'it returns false'. Refute it at one input. -/
def lawS5349BValueWrong : ChangeSpec := { name := "lawS5349BValue", fn := fun _ => fun
  | [d1, d2, d3] => { results := [.lit (.bool false)], args := [d1, d2, d3] }
  | _ => none }
def LawS5349BValueWrongFalsely : Prop := lawS5349BValueRow.holds Yba.pinned (OpenSpec.ofChange lawS5349BValueWrong)

/-- 'exactum.LawS5349CText': WHATEVER THE INPUT: true; the input reads as it did. -/
def lawS5349CTextSpec : ChangeSpec := { name := "lawS5349CText", fn := fun _ => fun
  | [d1, d2, d3] => { results := [.lit (.bool true)], args := [d1, d2, d3] }
  | _ => none }
def lawS5349CTextRow : OpenClaim := { program := "ybulkdftg", sum := "ce6644ee9237d1cd90237e6f406a7d1a5c33810f9671afd516c43a1daa238441", func := "example.com/exactum/exactum.LawS5349CText", spec := "lawS5349CText", inPlace := ["internal/abi.NoEscape", "internal/bytealg.MakeNoZero"], apart := false }
def LawS5349CTextSaid : Prop := lawS5349CTextRow.holds Yba.pinned (OpenSpec.ofChange lawS5349CTextSpec)

/-- ITS FALSE NEIGHBOUR: 'it returns false'. Refute it at one input. -/
def lawS5349CTextWrong : ChangeSpec := { name := "lawS5349CText", fn := fun _ => fun
  | [d1, d2, d3] => { results := [.lit (.bool false)], args := [d1, d2, d3] }
  | _ => none }
def LawS5349CTextWrongFalsely : Prop := lawS5349CTextRow.holds Yba.pinned (OpenSpec.ofChange lawS5349CTextWrong)

/-- 'exactum.LawS5349CShape': WHATEVER THE INPUT: true; the input reads as it did. -/
def lawS5349CShapeSpec : ChangeSpec := { name := "lawS5349CShape", fn := fun _ => fun
  | [d1, d2] => { results := [.lit (.bool true)], args := [d1, d2] }
  | _ => none }
def lawS5349CShapeRow : OpenClaim := { program := "ybulkdftg", sum := "ce6644ee9237d1cd90237e6f406a7d1a5c33810f9671afd516c43a1daa238441", func := "example.com/exactum/exactum.LawS5349CShape", spec := "lawS5349CShape", inPlace := ["internal/abi.NoEscape", "internal/bytealg.MakeNoZero"], apart := false }
def LawS5349CShapeSaid : Prop := lawS5349CShapeRow.holds Yba.pinned (OpenSpec.ofChange lawS5349CShapeSpec)

/-- ITS FALSE NEIGHBOUR: 'it returns false'. Refute it at one input. -/
def lawS5349CShapeWrong : ChangeSpec := { name := "lawS5349CShape", fn := fun _ => fun
  | [d1, d2] => { results := [.lit (.bool false)], args := [d1, d2] }
  | _ => none }
def LawS5349CShapeWrongFalsely : Prop := lawS5349CShapeRow.holds Yba.pinned (OpenSpec.ofChange lawS5349CShapeWrong)

end Rows
end Go.Proofs.Ybulkdftg
