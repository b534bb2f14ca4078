/-
  DERIVED. GIVEN WITH THE SEED: THE CARDS: each row of YbulkdfuwDoorRows.lean that lists a variable, with what it lists TIED to the program's text (the seventh form; the later family's looks); each row that meets fmt, with fmt's text TOLD by the authors' own Lean function (tested against real Go, not proved from fmt's source: count such statements apart). THE CARD IS WHAT COUNTS. Prove the row's statement (the work); the ties are given (YbulkdfuwDoorTie.lean); close each card by the builder's one call (the guide's Derived/Test/ToyasCard.lean, 'card_holds'). Laid BY PROGRAM, IN A SANDBOX (cutbox-door.mjs). By AI agents, Wed Nov 11 2026. No macro, syntax, notation, axiom, sorry.
-/
import Derived.Test.YbulkdfuwDoorRows
import GoSem.ClaimSeven
namespace Go.Proofs.YbulkdfuwDoor
namespace Rows

/-- THE TIED CARD OF 'decimal.LawS5352CExact'. -/
def lawS5352CExactCard : Claim7 := { stood := { row := lawS5352CExactRow, standIns := [], harness := (true, "707296ed3357551500ee433bb8e1bce3dc409ce4f4c9fe11a553a4ee52ec337e"), looks := false }, kinds := [], alts := [], laidByText := true, laidKinds := [.called], laidTests := true, laidLooks := .later }
def LawS5352CExactCardSaid : Prop := Claim7.holds Ybad.pinned (.plain (OpenSpec.ofChange lawS5352CExactSpec)) lawS5352CExactCard

/-- THE TIED CARD OF 'decimal.LawS5352CUndo'. -/
def lawS5352CUndoCard : Claim7 := { stood := { row := lawS5352CUndoRow, standIns := [], harness := (true, "707296ed3357551500ee433bb8e1bce3dc409ce4f4c9fe11a553a4ee52ec337e"), looks := false }, kinds := [], alts := [], laidByText := true, laidKinds := [.called], laidTests := true, laidLooks := .later }
def LawS5352CUndoCardSaid : Prop := Claim7.holds Ybad.pinned (.plain (OpenSpec.ofChange lawS5352CUndoSpec)) lawS5352CUndoCard
end Rows
end Go.Proofs.YbulkdfuwDoor
