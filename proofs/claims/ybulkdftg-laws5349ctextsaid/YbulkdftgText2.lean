/-
  The walk of LawS5349CText, the way on which the point stands ahead of all digits (a loop of appends).
-/
import Derived.Test.YbulkdftgText
namespace Go.Proofs.Ybulkdftg
open Go.RowKit

set_option maxHeartbeats 1000000 in
set_option maxRecDepth 100000 in
theorem text_out (a0 a1 : ByteArray) (a2 : Int) (k : Nat) (w : World) (h0 : a0.size ≤ 1024) (h1 : a1.size ≤ 1024) (e0 : 0 ≤ a2) (e1 : a2 ≤ 65535) (hk : a2 % 1025 = k) (hk0 : 0 < k) (hkn : a1.size ≤ k) :
    Calls Yba.prog 6 #[.string a0, .string a1, .int .u16 a2] w fun e w' => e = .returned (.bool true) ∧ Below w.heap.size w w' := by
  have h0' : (a0.size : Int) ≤ 1024 := by omega
  have h1' : (a1.size : Int) ≤ 1024 := by omega
  have hk' : k ≤ 1024 := by omega
  have cF := write_str w.heap.size w.heap.size [] a0 (w.alloc (.cells #[.pointer none, .slice none 0 0] 48)) (Lib.fresh_isBuilder 48 5 w) (by simp; omega) (by simp)
  go_enter Yba.func6, Yba.ntmps6
  go_wp2_with fail
  refine cF.mono ?_
  clear cF
  rintro e w1 ⟨rfl, i1, b1, z1⟩
  go_wp2_with fail
  refine (plain_out w.heap.size w.heap.size _ a1 k w1 i1 h1 (by rw [List.nil_append, list_len]; exact h0) z1 hk0 hk' hkn).mono ?_
  rintro e w2 ⟨rfl, i2, b2, z2⟩
  obtain ⟨v3, w3, r3, q3, b3⟩ := conv_bytes w2 a0 (by unfold maxLen; omega)
  have z3 : w2.heap.size ≤ w3.heap.size := b3.size
  obtain ⟨v4, w4, r4, q4, b4⟩ := append_two w3 w2.heap.size v3 _ 48 46 q3 (by simp only [list_len]; omega) z3
  have z4 := Nat.le_trans z3 b4.size
  have B2 : Hid (Below w.heap.size (w.alloc (.cells #[.pointer none, .slice none 0 0] 48)) w2) := b1.trans b2
  have I2 : Hid (Lib.IsBuilder 48 5 w.heap.size w.heap.size (Lib.byteCells ([] ++ a0.data.toList ++ (48 :: 46 :: (List.replicate (k - a1.size) 48 ++ a1.data.toList)))) w2) := i2
  have Q4 : Hid (HoldsB w4 w2.heap.size v4 (a0.data.toList ++ [48, 46]) ∧ Below w2.heap.size w2 w4 ∧ w2.heap.size ≤ w4.heap.size) := ⟨q4, b3.trans b4, z4⟩
  have r4' : (Builtin.append_ #[26, 26] 26 #[v3, .slice (some ⟨w3.heap.size, 0, none⟩) 2 2]).run Yba.prog (w3.alloc (.cells #[.int .u8 48, .int .u8 46] 5)) = .ok v4 w4 := r4
  clear q3 q4 b3 b4 i1 i2 b1 b2 z1 z2 z3 z4 r4
  go_wp2_with (at_builtin; refine wpList_app rfl (.tmp 61) (.tmp 62) 26 26 rfl v3 (.slice (some ⟨w3.heap.size, 0, none⟩) 2 2) v4 w4 rfl rfl r4' ?_)
  clear r3 r4'
  go_loopw [9, 12] (fun v i wr => ∃ j : Nat, j ≤ k - a1.size ∧ i = .int .i64 j ∧ Hid (HoldsB wr w2.heap.size v (a0.data.toList ++ [48, 46] ++ List.replicate j 48) ∧ Below w2.heap.size w2 wr ∧ w2.heap.size ≤ wr.heap.size)) (fun _ i _ => k - a1.size - (intOf i).toNat)
  case atStart => exact ⟨0, Nat.zero_le _, rfl, by have h := Q4.out; unfold Hid; simpa using h⟩
  case round =>
    obtain ⟨j, hj, rfl, Q⟩ := hrel
    by_cases hlt : j < k - a1.size
    · obtain ⟨q, b, z⟩ := Q.out
      have hlt' : (j : Int) < (k : Int) - (a1.size : Int) := by omega
      obtain ⟨v5, w5, r5, q5, b5⟩ := append_one wr w2.heap.size _ _ 48 q (by simp only [List.length_append, List.length_cons, List.length_nil, List.length_replicate, list_len]; omega) z
      have Q5 : Hid (HoldsB w5 w2.heap.size v5 (a0.data.toList ++ [48, 46] ++ List.replicate (j + 1) 48) ∧ Below w2.heap.size w2 w5 ∧ w2.heap.size ≤ w5.heap.size) := by
        refine ⟨?_, b.trans b5, Nat.le_trans z b5.size⟩
        rw [List.replicate_succ', ← List.append_assoc]
        exact q5
      have r5' : (Builtin.append_ #[26, 26] 26 #[u9, .slice (some ⟨wr.heap.size, 0, none⟩) 1 1]).run Yba.prog (wr.alloc (.cells #[.int .u8 48] 5)) = .ok v5 w5 := r5
      clear r5 q5 b5 q b z Q
      go_wp2_with (at_builtin; refine wpList_app rfl (.tmp 71) (.tmp 72) 26 26 rfl _ (.slice (some ⟨wr.heap.size, 0, none⟩) 1 1) v5 w5 rfl rfl r5' ?_)
      go_roundw
      case rel => exact ⟨j + 1, by omega, by go_num, Q5⟩
      case measure => simp [intOf]; omega
    · obtain rfl : j = k - a1.size := by omega
      have hge : (k : Int) - (a1.size : Int) ≤ ((k - a1.size : Nat) : Int) := by omega
      obtain ⟨q, b, z⟩ := Q.out
      obtain ⟨v5, w5, r5, q5, b5⟩ := append_str wr w2.heap.size _ _ a1 q (by simp only [List.length_append, List.length_cons, List.length_nil, List.length_replicate, list_len]; omega) z
      have HL : a0.data.toList ++ [48, 46] ++ List.replicate (k - a1.size) 48 ++ a1.data.toList = [] ++ a0.data.toList ++ (48 :: 46 :: (List.replicate (k - a1.size) 48 ++ a1.data.toList)) := by simp
      rw [HL] at q5
      have Q5 : Hid (_ ∧ _ ∧ _ ∧ _) := ⟨I2.out, b.trans b5, q5, B2.out⟩
      clear q5 b5 q b z Q I2 B2 HL
      go_wp2_with (at_builtin; refine wpList_app rfl (.tmp 74) (.tmp 75) 26 9 rfl _ (.string a1) v5 w5 rfl rfl r5 ?_)
      clear r5
      obtain ⟨i2, b4, q4, b2⟩ := Q5.out
      clear Q5
      obtain ⟨S, c21, hcv, HB⟩ := last i2 b4 q4 b2
      clear q4 b4 b2 i2
      go_region_with (go_at_call 21; refine c21.mono ?_; rintro e w' ⟨rfl, hb, hcv'⟩)
      all_goals go_wp2
      all_goals (go_ret; exact ⟨rfl, HB.out.trans hb⟩)
end Go.Proofs.Ybulkdftg
