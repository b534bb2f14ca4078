/-
  The walk of LawS5349CText.
-/
import Derived.Test.YbulkdftgMark
import Derived.Deep.QuietTactic
import Derived.BigQuiet
import Derived.Outline
namespace Go.Proofs.Ybulkdftg
open Go.RowKit

/-- Too long a text: true at once. -/
theorem text_long0 (a0 a1 : ByteArray) (a2 : Int) (w : World) (h : 1024 < a0.size) :
    Calls Yba.prog 6 #[.string a0, .string a1, .int .u16 a2] w fun e w' => e = .returned (.bool true) ∧ Below w.heap.size w w' := by
  have h' : (1024 : Int) < (a0.size : Int) := by omega
  go_enter Yba.func6, Yba.ntmps6
  go_wp2
  go_ret
  exact ⟨rfl, Below.refl _ _⟩
theorem text_long1 (a0 a1 : ByteArray) (a2 : Int) (w : World) (h0 : a0.size ≤ 1024) (h : 1024 < a1.size) :
    Calls Yba.prog 6 #[.string a0, .string a1, .int .u16 a2] w fun e w' => e = .returned (.bool true) ∧ Below w.heap.size w w' := by
  have h' : (1024 : Int) < (a1.size : Int) := by omega
  have h0' : (a0.size : Int) ≤ 1024 := by omega
  go_enter Yba.func6, Yba.ntmps6
  go_wp2
  go_ret
  exact ⟨rfl, Below.refl _ _⟩

/-- What the last statement wants: both texts are the same; what was there below is there still. -/
theorem last {w w2 w4 : World} {l : List UInt8} {v : Value} (i : Lib.IsBuilder 48 5 w.heap.size w.heap.size (Lib.byteCells l) w2) (b4 : Below w2.heap.size w2 w4) (q : HoldsB w4 w2.heap.size v l) (b2 : Below w.heap.size (w.alloc (.cells #[.pointer none, .slice none 0 0] 48)) w2) :
    ∃ S : ByteArray, Calls Yba.prog 21 #[.pointer (some ⟨w.heap.size, 0, none⟩)] w4.drew (fun e w' => e = .returned (.string S) ∧ Below w.heap.size w4.drew w' ∧ (convert 26 9 v).run Yba.prog w' = .ok (.string S) w') ∧
      (convert 26 9 v).run Yba.prog w4.drew = .ok (.string S) w4.drew ∧ Hid (Below w.heap.size w w4.drew) := by
  have z2 : w.heap.size ≤ w2.heap.size := Nat.le_trans (by simp) b2.size
  refine ⟨⟨l.toArray⟩, str_both w.heap.size w2.heap.size l v w4.drew (builder_below i b4.drew) q (Nat.le_trans z2 b4.size), q.back (fun a _ => rfl), ?_⟩
  exact ((((Below.refl w.heap.size w).alloc (Nat.le_refl _) _).trans b2).trans (b4.mono z2)).drew

set_option maxRecDepth 100000 in
/-- The exponent is 0. -/
theorem text_zero (a0 a1 : ByteArray) (a2 : Int) (w : World) (h0 : a0.size ≤ 1024) (h1 : a1.size ≤ 1024) (e0 : 0 ≤ a2) (e1 : a2 ≤ 65535) (hk : a2 % 1025 = 0) :
    Calls Yba.prog 6 #[.string a0, .string a1, .int .u16 a2] w fun e w' => e = .returned (.bool true) ∧ Below w.heap.size w w' := by
  have h0' : (a0.size : Int) ≤ 1024 := by omega
  have h1' : (a1.size : Int) ≤ 1024 := by omega
  have cF := write_str w.heap.size w.heap.size [] a0 (w.alloc (.cells #[.pointer none, .slice none 0 0] 48)) (Lib.fresh_isBuilder 48 5 w) (by simp; omega) (by simp)
  go_enter Yba.func6, Yba.ntmps6
  go_wp2_with fail
  refine cF.mono ?_
  clear cF
  rintro e w1 ⟨rfl, i1, b1, z1⟩
  go_wp2_with fail
  refine (plain_zero w.heap.size w.heap.size _ a1 w1 i1 h1 (by rw [List.nil_append, list_len]; exact h0) z1).mono ?_
  rintro e w2 ⟨rfl, i2, b2, z2⟩
  obtain ⟨v3, w3, r3, q3, b3⟩ := conv_bytes w2 a0 (by unfold maxLen; omega)
  have z3 : w2.heap.size ≤ w3.heap.size := b3.size
  obtain ⟨v4, w4, r4, q4, b4⟩ := append_str w3 w2.heap.size v3 _ a1 q3 (by rw [list_len]; omega) z3
  have Q4 : Hid (HoldsB w4 w2.heap.size v4 (a0.data.toList ++ a1.data.toList) ∧ Below w2.heap.size w2 w4 ∧ Below w.heap.size (w.alloc (.cells #[.pointer none, .slice none 0 0] 48)) w2 ∧ Lib.IsBuilder 48 5 w.heap.size w.heap.size (Lib.byteCells ([] ++ a0.data.toList ++ a1.data.toList)) w2) := ⟨q4, b3.trans b4, b1.trans b2, i2⟩
  clear q3 q4 b3 b4 i1 i2 b1 b2 z1 z2 z3
  go_wp2_with (at_builtin; refine wpList_app rfl (.tmp 34) (.tmp 35) 26 9 rfl v3 (.string a1) v4 w4 rfl rfl r4 ?_)
  clear r3 r4
  obtain ⟨q4, b4, b2, i2⟩ := Q4.out
  clear Q4
  obtain ⟨S, c21, hcv, HB⟩ := last i2 b4 q4 b2
  clear q4 b4 b2 i2
  go_region_with (go_at_call 21; refine c21.mono ?_; rintro e w' ⟨rfl, hb, hcv'⟩)
  all_goals go_wp2
  all_goals (go_ret; exact ⟨rfl, HB.out.trans hb⟩)

set_option maxRecDepth 100000 in
/-- The point stands inside the digits. -/
theorem text_in (a0 a1 : ByteArray) (a2 : Int) (k : Nat) (w : World) (h0 : a0.size ≤ 1024) (h1 : a1.size ≤ 1024) (e0 : 0 ≤ a2) (e1 : a2 ≤ 65535) (hk : a2 % 1025 = k) (hk0 : 0 < k) (hkn : k < a1.size) :
    Calls Yba.prog 6 #[.string a0, .string a1, .int .u16 a2] w fun e w' => e = .returned (.bool true) ∧ Below w.heap.size w w' := by
  have h0' : (a0.size : Int) ≤ 1024 := by omega
  have h1' : (a1.size : Int) ≤ 1024 := by omega
  have et : ((a1.size : Int) - (k : Int)).toNat = a1.size - k := by omega
  have cF := write_str w.heap.size w.heap.size [] a0 (w.alloc (.cells #[.pointer none, .slice none 0 0] 48)) (Lib.fresh_isBuilder 48 5 w) (by simp; omega) (by simp)
  go_enter Yba.func6, Yba.ntmps6
  go_wp2_with fail
  refine cF.mono ?_
  clear cF
  rintro e w1 ⟨rfl, i1, b1, z1⟩
  go_wp2_with fail
  refine (plain_in w.heap.size w.heap.size _ a1 k w1 i1 h1 (by rw [List.nil_append, list_len]; exact h0) z1 hk0 hkn).mono ?_
  rintro e w2 ⟨rfl, i2, b2, z2⟩
  obtain ⟨v3, w3, r3, q3, b3⟩ := conv_bytes w2 a0 (by unfold maxLen; omega)
  have z3 : w2.heap.size ≤ w3.heap.size := b3.size
  have n1 := size_cut a1 0 (a1.size - k)
  have n2 := size_cut a1 (a1.size - k) a1.size
  obtain ⟨v4, w4, r4, q4, b4⟩ := append_str w3 w2.heap.size v3 _ (a1.extract 0 (a1.size - k)) q3 (by rw [list_len]; omega) z3
  have z4 := Nat.le_trans z3 b4.size
  obtain ⟨v5, w5, r5, q5, b5⟩ := append_one w4 w2.heap.size v4 _ 46 q4 (by simp only [List.length_append, list_len]; omega) z4
  have z5 := Nat.le_trans z4 b5.size
  obtain ⟨v6, w6, r6, q6, b6⟩ := append_str w5 w2.heap.size v5 _ (a1.extract (a1.size - k) a1.size) q5 (by simp only [List.length_append, List.length_cons, List.length_nil, list_len]; omega) z5
  have HL : a0.data.toList ++ (a1.extract 0 (a1.size - k)).data.toList ++ [46] ++ (a1.extract (a1.size - k) a1.size).data.toList = [] ++ a0.data.toList ++ (a1.data.toList.take (a1.size - k) ++ (46 :: a1.data.toList.drop (a1.size - k))) := by
    rw [Lib.extract_data, Lib.extract_to_end]
    simp
  rw [HL] at q6
  have Q : Hid (_ ∧ _ ∧ _ ∧ _) := ⟨i2, ((b3.trans b4).trans b5).trans b6, q6, b1.trans b2⟩
  have r5' : (Builtin.append_ #[26, 26] 26 #[v4, .slice (some ⟨w4.heap.size, 0, none⟩) 1 1]).run Yba.prog (w4.alloc (.cells #[.int .u8 46] 5)) = .ok v5 w5 := r5
  clear q3 q4 q5 q6 b3 b4 b5 b6 i1 i2 b1 b2 z1 z2 z3 z4 z5 n1 n2 HL r5
  go_wp2_with (first
    | (at_builtin; refine wpList_app rfl (.tmp 44) (.tmp 49) 26 9 rfl v3 (.string (a1.extract 0 (a1.size - k))) v4 w4 rfl rfl r4 ?_)
    | (at_builtin; refine wpList_app rfl (.tmp 51) (.tmp 52) 26 26 rfl v4 (.slice (some ⟨w4.heap.size, 0, none⟩) 1 1) v5 w5 rfl rfl r5' ?_)
    | (at_builtin; refine wpList_app rfl (.tmp 54) (.tmp 59) 26 9 rfl v5 (.string (a1.extract (a1.size - k) a1.size)) v6 w6 rfl rfl r6 ?_))
  clear r3 r4 r5' r6
  obtain ⟨i2, b4, q4, b2⟩ := Q.out
  clear Q
  obtain ⟨S, c21, hcv, HB⟩ := last i2 b4 q4 b2
  clear q4 b4 b2 i2
  go_region_with (go_at_call 21; refine c21.mono ?_; rintro e w' ⟨rfl, hb, hcv'⟩)
  all_goals go_wp2
  all_goals (go_ret; exact ⟨rfl, HB.out.trans hb⟩)
end Go.Proofs.Ybulkdftg
