/-
  'writePlain' of package exactum by its contract: what it writes into a builder that the call has made.
-/
import Derived.Test.YbulkdftgRows
import Derived.Test.YbulkdftgShelf
import Derived.WalkKit
import Derived.WalkSpells
import Derived.ProofKit
import Derived.Lib.IndexBytes
namespace Go.Proofs.Ybulkdftg
open Go.RowKit

/-- digits x 10^(-k) written out in full. -/
def plain (s : List UInt8) (k : Nat) : List UInt8 :=
  if k = 0 then s else if k < s.length then s.take (s.length - k) ++ (46 :: s.drop (s.length - k)) else 48 :: 46 :: (List.replicate (k - s.length) 48 ++ s)

theorem write_str (B b : Nat) (l : List UInt8) (s : ByteArray) (w : World) (h : Lib.IsBuilder 48 5 B b (Lib.byteCells l) w) (hlen : l.length + s.size ≤ 140737488355328) (hBw : B ≤ w.heap.size) :
    Calls Yba.prog 19 #[.pointer (some ⟨b, 0, none⟩), .string s] w fun e w' => e = .returned (.tuple #[.int .i64 s.size, .nilIface]) ∧ (Lib.IsBuilder 48 5 B b (Lib.byteCells (l ++ s.data.toList)) w' ∧ Below B w w' ∧ B ≤ w'.heap.size) := by
  refine (Yba.Builder_WriteString B b (Lib.byteCells l) s w h (by rw [Lib.byteCells_length]; exact hlen) hBw).mono ?_
  rintro e w' ⟨rfl, h1, h2⟩
  refine ⟨rfl, Or.inr ?_, h2, Nat.le_trans hBw h2.size⟩
  rw [Lib.byteCells_append]
  exact h1
theorem write_byte (B b : Nat) (l : List UInt8) (c : UInt8) (w : World) (h : Lib.IsBuilder 48 5 B b (Lib.byteCells l) w) (hlen : l.length + 1 ≤ 140737488355328) (hBw : B ≤ w.heap.size) :
    Calls Yba.prog 41 #[.pointer (some ⟨b, 0, none⟩), .int .u8 c.toNat] w fun e w' => e = .returned .nilIface ∧ (Lib.IsBuilder 48 5 B b (Lib.byteCells (l ++ [c])) w' ∧ Below B w w' ∧ B ≤ w'.heap.size) := by
  refine (Yba.Builder_WriteByte B b (Lib.byteCells l) c.toNat w h (by rw [Lib.byteCells_length]; exact hlen) hBw).mono ?_
  rintro e w' ⟨rfl, h1, h2⟩
  refine ⟨rfl, Or.inr ?_, h2, Nat.le_trans hBw h2.size⟩
  rw [Lib.byteCells_append]
  exact h1

/-- exp = 0. -/
theorem plain_zero (B b : Nat) (l : List UInt8) (s : ByteArray) (w : World) (h : Lib.IsBuilder 48 5 B b (Lib.byteCells l) w) (hs : s.size ≤ 1024) (hl : l.length ≤ 1024) (hBw : B ≤ w.heap.size) :
    Calls Yba.prog 20 #[.pointer (some ⟨b, 0, none⟩), .string s, .int .i64 0] w fun e w' => e = .returned (.tuple #[]) ∧ (Lib.IsBuilder 48 5 B b (Lib.byteCells (l ++ s.data.toList)) w' ∧ Below B w w' ∧ B ≤ w'.heap.size) := by
  have c19 := write_str B b l s w h (by omega) hBw
  clear h
  go_enter Yba.func20, Yba.ntmps20
  go_wp2_with (go_at_call 19; refine c19.mono ?_; rintro e w' ⟨rfl, h1⟩)
  go_end0
  exact ⟨rfl, h1⟩

theorem write_dot (B b : Nat) (l : List UInt8) (w : World) (h : Lib.IsBuilder 48 5 B b (Lib.byteCells l) w) (hlen : l.length + 1 ≤ 140737488355328) (hBw : B ≤ w.heap.size) :
    Calls Yba.prog 41 #[.pointer (some ⟨b, 0, none⟩), .int .u8 46] w fun e w' => e = .returned .nilIface ∧ (Lib.IsBuilder 48 5 B b (Lib.byteCells (l ++ [46])) w' ∧ Below B w w' ∧ B ≤ w'.heap.size) :=
  write_byte B b l 46 w h hlen hBw
theorem size_cut (s : ByteArray) (a b : Nat) : (s.extract a b).size ≤ s.size := by
  rw [ByteArray.size_extract]; omega
theorem list_len (s : ByteArray) : s.data.toList.length = s.size := rfl

/-- The point stands inside the digits. -/
theorem plain_in (B b : Nat) (l : List UInt8) (s : ByteArray) (k : Nat) (w : World) (h : Lib.IsBuilder 48 5 B b (Lib.byteCells l) w) (hs : s.size ≤ 1024) (hl : l.length ≤ 1024) (hBw : B ≤ w.heap.size) (hk : 0 < k) (hks : k < s.size) :
    Calls Yba.prog 20 #[.pointer (some ⟨b, 0, none⟩), .string s, .int .i64 (-(k : Int))] w fun e w' => e = .returned (.tuple #[]) ∧ (Lib.IsBuilder 48 5 B b (Lib.byteCells (l ++ (s.data.toList.take (s.size - k) ++ (46 :: s.data.toList.drop (s.size - k))))) w' ∧ Below B w w' ∧ B ≤ w'.heap.size) := by
  have e1 : ((s.size : Int) + -(k : Int)).toNat = s.size - k := by omega
  have HL : Hid (l ++ (s.extract 0 (s.size - k)).data.toList ++ [46] ++ (s.extract (s.size - k) s.size).data.toList = l ++ (s.data.toList.take (s.size - k) ++ (46 :: s.data.toList.drop (s.size - k)))) := by
    unfold Hid
    rw [Lib.extract_data, Lib.extract_to_end]
    simp
  have n1 : (s.extract 0 (s.size - k)).data.toList.length ≤ 1024 := by rw [list_len]; have := size_cut s 0 (s.size - k); omega
  have n2 : (s.extract (s.size - k) s.size).size ≤ 1024 := by have := size_cut s (s.size - k) s.size; omega
  have c1 := write_str B b l (s.extract 0 (s.size - k)) w h (by rw [← list_len]; omega) hBw
  clear h
  go_enter Yba.func20, Yba.ntmps20
  go_wp2_with fail
  refine c1.mono ?_
  clear c1
  rintro e w1 ⟨rfl, h1, b1, z1⟩
  go_wp2_with fail
  refine (write_dot B b _ w1 h1 (by simp only [List.length_append]; omega) z1).mono ?_
  rintro e w2 ⟨rfl, h2, b2, z2⟩
  go_wp2_with fail
  refine (write_str B b _ _ w2 h2 (by simp only [List.length_append, List.length_cons, List.length_nil]; omega) z2).mono ?_
  rintro e w3 ⟨rfl, h3, b3, z3⟩
  go_wp2_with fail
  go_end0
  rw [HL.out] at h3
  exact ⟨rfl, h3, (b1.trans b2).trans b3, z3⟩

/-- Builder and Below: what lies below is a builder still. -/
theorem builder_below {B b : Nat} {bs : List Value} {w w' : World} (h : Lib.IsBuilder 48 5 B b bs w) (hb : Below w.heap.size w w') : Lib.IsBuilder 48 5 B b bs w' := by
  have one : ∀ p, Lib.BuilderAt 48 5 B b p bs w → Lib.BuilderAt 48 5 B b p bs w' := by
    rintro p ⟨hB, v, hbk, ⟨hl, hown⟩, hne⟩
    refine ⟨hB, v, ?_, ⟨hl, ?_⟩, hne⟩
    · rw [hb.block b (Array.getElem?_eq_some_iff.1 hbk).1]; exact hbk
    · rcases hown with h0 | ⟨g, cap, cur, hv, hg0, hg, r⟩
      · exact Or.inl h0
      · exact Or.inr ⟨g, cap, cur, hv, hg0, by rw [hb.block g (Array.getElem?_eq_some_iff.1 hg).1]; exact hg, r⟩
  rcases h with h | h
  · exact Or.inl (one _ h)
  · exact Or.inr (one _ h)

/-- c zeros. -/
def zeros (c : Nat) : ByteArray := ⟨(List.replicate c 48).toArray⟩
theorem zeros_data (c : Nat) : (zeros c).data.toList = List.replicate c 48 := by simp [zeros]
theorem zeros_size (c : Nat) : (zeros c).size = c := by rw [← list_len, zeros_data, List.length_replicate]
theorem rep_zero (c : Nat) (w : World) (hc : c ≤ 1024) : Calls Yba.prog 42 #[.string ⟨#[48]⟩, .int .i64 c] w fun e w' => e = .returned (.string (zeros c)) ∧ Below w.heap.size w w' := by
  refine (Yba.strings_Repeat ⟨#[48]⟩ c w (by omega) (by show 1 * c ≤ _; omega)).mono ?_
  rintro e w' ⟨rfl, h⟩
  have hr := Lib.repeatL_replicate 48 1 c
  simp only [List.replicate_one, Nat.mul_one] at hr
  refine ⟨?_, h⟩
  unfold zeros
  rw [← hr]

/-- The point stands ahead of all digits. -/
theorem plain_out (B b : Nat) (l : List UInt8) (s : ByteArray) (k : Nat) (w : World) (h : Lib.IsBuilder 48 5 B b (Lib.byteCells l) w) (hs : s.size ≤ 1024) (hl : l.length ≤ 1024) (hBw : B ≤ w.heap.size) (hk : 0 < k) (hk' : k ≤ 1024) (hks : s.size ≤ k) :
    Calls Yba.prog 20 #[.pointer (some ⟨b, 0, none⟩), .string s, .int .i64 (-(k : Int))] w fun e w' => e = .returned (.tuple #[]) ∧ (Lib.IsBuilder 48 5 B b (Lib.byteCells (l ++ (48 :: 46 :: (List.replicate (k - s.size) 48 ++ s.data.toList)))) w' ∧ Below B w w' ∧ B ≤ w'.heap.size) := by
  have e1 : -((s.size : Int) + -(k : Int)) = ((k - s.size : Nat) : Int) := by omega
  have c1 := write_str B b l ⟨#[48, 46]⟩ w h (by show l.length + 2 ≤ _; omega) hBw
  have HL : Hid (l ++ [48, 46] ++ (zeros (k - s.size)).data.toList ++ s.data.toList = l ++ (48 :: 46 :: (List.replicate (k - s.size) 48 ++ s.data.toList))) := by
    unfold Hid
    rw [zeros_data]
    simp
  have HN : Hid (l.length + 2 + (zeros (k - s.size)).size ≤ 4096) := by unfold Hid; rw [zeros_size]; omega
  clear h
  go_enter Yba.func20, Yba.ntmps20
  go_wp2_with fail
  refine c1.mono ?_
  clear c1
  rintro e w1 ⟨rfl, h1, b1, z1⟩
  go_wp2_with fail
  refine (rep_zero _ w1 (by omega)).mono ?_
  rintro e w2 ⟨rfl, b2⟩
  have h2 := builder_below h1 b2
  have z2 : B ≤ w2.heap.size := Nat.le_trans z1 b2.size
  have b2' := b2.mono z1
  clear h1 b2
  go_wp2_with fail
  refine (write_str B b _ _ w2 h2 (by have := HN.out; simp only [List.length_append, List.length_cons, List.length_nil]; omega) z2).mono ?_
  rintro e w3 ⟨rfl, h3, b3, z3⟩
  go_wp2_with fail
  refine (write_str B b _ _ w3 h3 (by have := HN.out; rw [← list_len (zeros _)] at this; simp only [List.length_append, List.length_cons, List.length_nil]; omega) z3).mono ?_
  rintro e w4 ⟨rfl, h4, b4, z4⟩
  go_wp2_with fail
  go_end0
  rw [HL.out] at h4
  exact ⟨rfl, h4, ((b1.trans b2').trans b3).trans b4, z4⟩

/-- 'writePlain' at every exponent from 0 down to -1024. -/
theorem plain_any (B b : Nat) (l : List UInt8) (s : ByteArray) (k : Nat) (w : World) (h : Lib.IsBuilder 48 5 B b (Lib.byteCells l) w) (hs : s.size ≤ 1024) (hl : l.length ≤ 1024) (hBw : B ≤ w.heap.size) (hk' : k ≤ 1024) :
    Calls Yba.prog 20 #[.pointer (some ⟨b, 0, none⟩), .string s, .int .i64 (-(k : Int))] w fun e w' => e = .returned (.tuple #[]) ∧ (Lib.IsBuilder 48 5 B b (Lib.byteCells (l ++ plain s.data.toList k)) w' ∧ Below B w w' ∧ B ≤ w'.heap.size) := by
  by_cases h0 : k = 0
  · subst h0
    have : plain s.data.toList 0 = s.data.toList := rfl
    rw [this]
    exact plain_zero B b l s w h hs hl hBw
  · by_cases h1 : k < s.size
    · have : plain s.data.toList k = s.data.toList.take (s.size - k) ++ (46 :: s.data.toList.drop (s.size - k)) := by
        unfold plain; rw [if_neg h0, list_len, if_pos h1]
      rw [this]
      exact plain_in B b l s k w h hs hl hBw (by omega) h1
    · have : plain s.data.toList k = 48 :: 46 :: (List.replicate (k - s.size) 48 ++ s.data.toList) := by
        unfold plain; rw [if_neg h0, list_len, if_neg h1]
      rw [this]
      exact plain_out B b l s k w h hs hl hBw (by omega) hk' (by omega)
end Go.Proofs.Ybulkdftg
