/-
  The walks of 'broker.LawS5353ATable': the table's cells are hypotheses.
-/
import Derived.Test.YbulkdfvkDoorRows
import Derived.WalkKit
import Derived.ProofKit
namespace Go.Proofs.YbulkdfvkDoor
open Go.RowKit

/-- The three reasons' bytes. -/
abbrev s1 : ByteArray := { data := #[110, 97, 99, 107, 101, 100] }
abbrev s2 : ByteArray := { data := #[116, 105, 109, 101, 100, 95, 111, 117, 116] }
abbrev s3 : ByteArray := { data := #[114, 101, 115, 116, 97, 114, 116, 101, 100] }

/-- Every code: four ways within the table, one beyond it. -/
theorem walk (c : Int) (w : World) (h0 : 0 ≤ c) (b off cap : Nat) (hc : w.cell? ⟨0, 0, none⟩ = some (.slice (some ⟨b, off, none⟩) 4 cap))
    (c1 : w.cell? ⟨b, off + 1, none⟩ = some (.string s1)) (c2 : w.cell? ⟨b, off + 2, none⟩ = some (.string s2)) (c3 : w.cell? ⟨b, off + 3, none⟩ = some (.string s3)) :
    Calls Ybad.prog 3 #[.int .u64 c] w fun e w' => e = .returned (.bool true) ∧ w' = w := by
  have hcs : c = 0 ∨ c = 1 ∨ c = 2 ∨ c = 3 ∨ ((c == 0) = false ∧ (c == 1) = false ∧ (c == 2) = false ∧ (c == 3) = false ∧ 4 ≤ c) := by
    simp only [beq_eq_false_iff_ne, ne_eq]
    omega
  rcases hcs with rfl | rfl | rfl | rfl | ⟨n0, n1, n2, n3, h4⟩
  all_goals
    go_enter Ybad.func3, Ybad.ntmps3
    go_wp2
    go_ret
    exact ⟨rfl, rfl⟩
end Go.Proofs.YbulkdfvkDoor
