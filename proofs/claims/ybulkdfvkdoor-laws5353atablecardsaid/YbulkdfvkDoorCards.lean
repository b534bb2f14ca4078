/-
  DERIVED. GIVEN WITH THE SEED: THE CARDS: each row of YbulkdfvkDoorRows.lean that lists a variable, with what it lists TIED to the program's text (the seventh form; the later family's looks); each row that meets fmt, with fmt's text TOLD by the authors' own Lean function (tested against real Go, not proved from fmt's source: count such statements apart). THE CARD IS WHAT COUNTS. Prove the row's statement (the work); the ties are given (YbulkdfvkDoorTie.lean); close each card by the builder's one call (the guide's Derived/Test/ToyasCard.lean, 'card_holds'). Laid BY PROGRAM, IN A SANDBOX (cutbox-door.mjs). By AI agents, Wed Nov 11 2026. No macro, syntax, notation, axiom, sorry.
-/
import Derived.Test.YbulkdfvkDoorRows
import GoSem.ClaimSeven
namespace Go.Proofs.YbulkdfvkDoor
namespace Rows

/-- THE TIED CARD OF 'broker.LawS5353ATable'. -/
def lawS5353ATableCard : Claim7 := { stood := { row := lawS5353ATableRow, standIns := [], harness := (true, "02994235283772838ebd4a1b25571f0633c3bacddf305ca81308fc9ad64cd12c"), looks := false }, kinds := [], alts := [], laidByText := true, laidKinds := [.widerDeep], laidTests := true, laidLooks := .later }
def LawS5353ATableCardSaid : Prop := Claim7.holds Ybad.pinned (.plain (OpenSpec.ofChange lawS5353ATableSpec)) lawS5353ATableCard
end Rows
end Go.Proofs.YbulkdfvkDoor
