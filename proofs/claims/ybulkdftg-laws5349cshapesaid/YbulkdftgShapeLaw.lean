/-
  The plain law of LawS5349CShape: where the digits, the zeros and the point of the positional text stand. No Go in sight.
-/
import Derived.Test.YbulkdftgPlain
namespace Go.Proofs.Ybulkdftg

/-- The digits behind their zeros. -/
def padded (D : List UInt8) (k : Nat) : List UInt8 := List.replicate (k + 1 - D.length) 48 ++ D
theorem padded_len (D : List UInt8) (k : Nat) : (padded D k).length = (k + 1 - D.length) + D.length := by simp [padded]

theorem plain_eq (D : List UInt8) (k : Nat) (hk : 0 < k) : plain D k = (padded D k).take (k + 1 - D.length + D.length - k) ++ 46 :: (padded D k).drop (k + 1 - D.length + D.length - k) := by
  unfold plain padded
  rw [if_neg (by omega)]
  by_cases h : k < D.length
  · rw [if_pos h]
    have e0 : k + 1 - D.length = 0 := by omega
    rw [e0]
    simp
  · rw [if_neg h]
    obtain ⟨z, hz⟩ : ∃ z, k + 1 - D.length = z + 1 := ⟨k - D.length, by omega⟩
    have e1 : z + 1 + D.length - k = 1 := by omega
    have e2 : k - D.length = z := by omega
    rw [hz, e1, e2, List.replicate_succ]
    simp

theorem plain_len (D : List UInt8) (k : Nat) (hk : 0 < k) : (plain D k).length = k + 1 - D.length + D.length + 1 := by
  rw [plain_eq D k hk]
  simp only [List.length_append, List.length_take, List.length_cons, List.length_drop, padded_len]
  omega

theorem plain_point (D : List UInt8) (k : Nat) (hk : 0 < k) : (plain D k)[k + 1 - D.length + D.length - k]? = some 46 := by
  rw [plain_eq D k hk, List.getElem?_append_right (by simp [padded_len])]
  simp [padded_len]

/-- What stands at place i: the padded digits' place j, the point left out. -/
theorem plain_at (D : List UInt8) (k i j : Nat) (hk : 0 < k) (hj : (i < k + 1 - D.length + D.length - k ∧ j = i) ∨ (k + 1 - D.length + D.length - k < i ∧ i = j + 1)) : (plain D k)[i]? = (padded D k)[j]? := by
  rw [plain_eq D k hk]
  rcases hj with ⟨h, rfl⟩ | ⟨h, rfl⟩
  · rw [List.getElem?_append_left (by simp only [List.length_take, padded_len]; omega), List.getElem?_take, if_pos h]
  · rw [List.getElem?_append_right (by simp only [List.length_take, padded_len]; omega)]
    have e : j + 1 - (List.take (k + 1 - D.length + D.length - k) (padded D k)).length = (j - (k + 1 - D.length + D.length - k)) + 1 := by
      simp only [List.length_take, padded_len]; omega
    rw [e, List.getElem?_cons_succ, List.getElem?_drop]
    congr 1
    omega

theorem padded_zero (D : List UInt8) (k j : Nat) (h : j < k + 1 - D.length) : (padded D k)[j]? = some 48 := by
  unfold padded
  rw [List.getElem?_append_left (by simpa using h)]
  simp [h]
theorem padded_digit (D : List UInt8) (k j : Nat) (h : k + 1 - D.length ≤ j) : (padded D k)[j]? = D[j - (k + 1 - D.length)]? := by
  unfold padded
  rw [List.getElem?_append_right (by simpa using h)]
  simp

/-! ### the same, of byte arrays -/
theorem byte_at (s : ByteArray) (i : Nat) (h : i < s.size) (x : UInt8) (hx : s.data.toList[i]? = some x) : s[i] = x := by
  have h' : i < s.data.toList.length := h
  rw [List.getElem?_eq_getElem h'] at hx
  have : s[i] = s.data.toList[i] := rfl
  rw [this]
  exact Option.some.inj hx
theorem get_at (s : ByteArray) (i : Nat) (h : i < s.size) : s.data.toList[i]? = some s[i] := by
  have h' : i < s.data.toList.length := h
  rw [List.getElem?_eq_getElem h']
  rfl
end Go.Proofs.Ybulkdftg
