/-
  time.Time{}.Add(d) at a small count of nanoseconds: no second is passed, no monotonic reading is there.
-/
import Derived.Test.YbulkdfvkRows
import Derived.WalkKit
import Derived.WalkSpells
import Derived.WalkLawsBesides
import Derived.ProofKit
import Derived.Outline
import Derived.Laws.Bits64b
import Derived.Deep.DeepCutAuto
namespace Go.Proofs.Ybulkdfvk
open Go.RowKit

theorem bits_mono (d : Nat) (hd : d ≤ 1024) : bits .and .u64 (d : Int) 9223372036854775808 = 0 := by
  have h := bits_and_u64_nat d 9223372036854775808 (by omega) (by omega)
  have e : d &&& 9223372036854775808 = 0 := by
    have h2 : d &&& 2 ^ 63 = 0 := by
      apply Nat.eq_of_testBit_eq
      intro i
      rw [Nat.testBit_and, Nat.testBit_two_pow, Nat.zero_testBit]
      by_cases hi : 63 = i
      · subst hi
        rw [Nat.testBit_lt_two_pow (show d < 2 ^ 63 by omega), Bool.false_and]
      · rw [decide_eq_false hi, Bool.and_false]
    exact h2
  rw [e] at h
  exact h
theorem bits_nano : bits .and .u64 0 1073741823 = 0 := by kernel_rfl
theorem bits_clear : bits .andNot .u64 0 1073741823 = 0 := by kernel_rfl
theorem bits_or0 (d : Nat) (hd : d ≤ 1024) : bits .or .u64 0 (d : Int) = (d : Int) := by
  have h := bits_or_u64_nat 0 d (by omega) (by omega)
  rw [Nat.zero_or] at h
  exact h

set_option maxHeartbeats 200000 in
/-- nsec of a time whose wall is 0. -/
theorem nsec_zero (b : Nat) (w : World) (h0 : w.cell? ⟨b, 0, none⟩ = some (.int .u64 0)) :
    Calls Yba.prog 9 #[.pointer (some ⟨b, 0, none⟩)] w fun e w' => e = .returned (.int .i32 0) ∧ w' = w := by
  have hb := bits_nano
  go_enter Yba.func9, Yba.ntmps9
  go_wp2
  go_ret
  exact ⟨rfl, rfl⟩
set_option maxHeartbeats 200000 in
/-- addSec(0) at a time without a monotonic reading. -/
theorem addSec_zero (b : Nat) (d : Int) (w : World) (hb : bits .and .u64 d 9223372036854775808 = 0) (h0 : w.cell? ⟨b, 0, none⟩ = some (.int .u64 d)) (h1 : w.cell? ⟨b, 1, none⟩ = some (.int .i64 0)) (f1 : w.frozen? ⟨b, 1, none⟩ = false) :
    Calls Yba.prog 10 #[.pointer (some ⟨b, 0, none⟩), .int .i64 0] w fun e w' => e = .returned (.tuple #[]) ∧ w' = w.setCell ⟨b, 1, none⟩ (.int .i64 0) := by
  go_enter Yba.func10, Yba.ntmps10
  go_wp2
  go_end0
  exact ⟨rfl, rfl⟩

set_option maxHeartbeats 1000000 in
set_option maxRecDepth 100000 in
theorem time_addI (d : Int) (w : World) (hd0 : 0 ≤ d) (hd : d ≤ 1024) (hb1 : bits .and .u64 d 9223372036854775808 = 0) (hb3 : bits .or .u64 0 d = d) :
    Calls Yba.prog 6 #[.agg #[.int .u64 0, .int .i64 0, .pointer none], .int .i64 d] w fun e w' => e = .returned (.agg #[.int .u64 d, .int .i64 0, .pointer none]) ∧ ∃ c1 c2 : Array Value, w' = (w.alloc (.cells c1 36)).alloc (.cells c2 36) := by
  have hb2 := bits_clear
  have hq : d / 1000000000 = 0 := by omega
  have hr : d % 1000000000 = d := by omega
  go_enter Yba.func6, Yba.ntmps6
  go_wp2_with fail
  refine (nsec_zero w.heap.size _ ?_).mono ?_
  · simp [go_sem]
  rintro e w' ⟨rfl, rfl⟩
  go_wp2_with fail
  refine (addSec_zero w.heap.size d _ hb1 ?_ ?_ ?_).mono ?_
  · simp [go_sem]
  · simp [go_sem]
  · simp [go_sem]
  rintro e w' ⟨rfl, rfl⟩
  go_wp2
  exact bodyPost_ret (v := .agg #[.int .u64 d, .int .i64 0, .pointer none]) (by simp [results, Yba.results6, go_sem]) rfl ⟨rfl, _, _, rfl⟩
/-- time.Time{}.Add(d): the wall holds d, all else is nought; two new blocks. -/
theorem time_add (d : Nat) (w : World) (hd : d ≤ 1024) :
    Calls Yba.prog 6 #[.agg #[.int .u64 0, .int .i64 0, .pointer none], .int .i64 d] w fun e w' => e = .returned (.agg #[.int .u64 d, .int .i64 0, .pointer none]) ∧ ∃ c1 c2 : Array Value, w' = (w.alloc (.cells c1 36)).alloc (.cells c2 36) :=
  time_addI d w (by omega) (by omega) (bits_mono d hd) (bits_or0 d hd)
end Go.Proofs.Ybulkdfvk
