/-
  LawS5353CMatchesModel where one of its four rows is longer than 1024.
-/
import Derived.Test.YbulkdfvkStageA
namespace Go.Proofs.Ybulkdfvk
open Go.RowKit Go.Maps

set_option maxHeartbeats 2000000 in
set_option maxRecDepth 100000 in
theorem long0 (a0 a1 a2 a3 : Option Addr) (n c n1 d1 n2 d2 n3 d3 : Nat) (w : World) (h : 1024 < n) :
    Calls Yba.prog 4 #[.slice a0 n c, .slice a1 n1 d1, .slice a2 n2 d2, .slice a3 n3 d3] w fun e w' => e = .returned (.bool true) ∧ Below w.heap.size w w' := by
  have h' : (1024 : Int) < (n : Int) := by omega
  go_enter Yba.func4, Yba.ntmps4
  go_wp2
  go_ret
  exact ⟨rfl, Below.refl _ _⟩
set_option maxHeartbeats 2000000 in
set_option maxRecDepth 100000 in
theorem long1 (a0 a1 a2 a3 : Option Addr) (n c n1 d1 n2 d2 n3 d3 : Nat) (w : World) (h0 : n ≤ 1024) (h : 1024 < n1) :
    Calls Yba.prog 4 #[.slice a0 n c, .slice a1 n1 d1, .slice a2 n2 d2, .slice a3 n3 d3] w fun e w' => e = .returned (.bool true) ∧ Below w.heap.size w w' := by
  have h0' : ¬ (1024 : Int) < (n : Int) := by omega
  have h' : (1024 : Int) < (n1 : Int) := by omega
  go_enter Yba.func4, Yba.ntmps4
  go_wp2
  go_ret
  exact ⟨rfl, Below.refl _ _⟩
set_option maxHeartbeats 2000000 in
set_option maxRecDepth 100000 in
theorem long2 (a0 a1 a2 a3 : Option Addr) (n c n1 d1 n2 d2 n3 d3 : Nat) (w : World) (h0 : n ≤ 1024) (h1 : n1 ≤ 1024) (h : 1024 < n2) :
    Calls Yba.prog 4 #[.slice a0 n c, .slice a1 n1 d1, .slice a2 n2 d2, .slice a3 n3 d3] w fun e w' => e = .returned (.bool true) ∧ Below w.heap.size w w' := by
  have h0' : ¬ (1024 : Int) < (n : Int) := by omega
  have h1' : ¬ (1024 : Int) < (n1 : Int) := by omega
  have h' : (1024 : Int) < (n2 : Int) := by omega
  go_enter Yba.func4, Yba.ntmps4
  go_wp2
  go_ret
  exact ⟨rfl, Below.refl _ _⟩
set_option maxHeartbeats 2000000 in
set_option maxRecDepth 100000 in
theorem long3 (a0 a1 a2 a3 : Option Addr) (n c n1 d1 n2 d2 n3 d3 : Nat) (w : World) (h0 : n ≤ 1024) (h1 : n1 ≤ 1024) (h2 : n2 ≤ 1024) (h : 1024 < n3) :
    Calls Yba.prog 4 #[.slice a0 n c, .slice a1 n1 d1, .slice a2 n2 d2, .slice a3 n3 d3] w fun e w' => e = .returned (.bool true) ∧ Below w.heap.size w w' := by
  have h0' : ¬ (1024 : Int) < (n : Int) := by omega
  have h1' : ¬ (1024 : Int) < (n1 : Int) := by omega
  have h2' : ¬ (1024 : Int) < (n2 : Int) := by omega
  have h' : (1024 : Int) < (n3 : Int) := by omega
  go_enter Yba.func4, Yba.ntmps4
  go_wp2
  go_ret
  exact ⟨rfl, Below.refl _ _⟩
end Go.Proofs.Ybulkdfvk
