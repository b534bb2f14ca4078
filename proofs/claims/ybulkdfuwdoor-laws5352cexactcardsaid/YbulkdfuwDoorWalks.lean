/-
  The walks of 'decimal.LawS5352CExact' and its callees: magnitude, mulSmall, scaleSmall, the model; math/bits.Mul64 by the shelf's contract.
-/
import Derived.Test.YbulkdfuwDoorRows
import Derived.Test.YbulkdfuwDoorShelf
import Derived.WalkKit
import Derived.ProofKit
namespace Go.Proofs.YbulkdfuwDoor
open Go.RowKit

theorem ret_int {k : IntKind} {a b : Int} (h : a = b) : Ending.returned (.int k a) = .returned (.int k b) := by rw [h]
theorem ret_ib {k : IntKind} {a b : Int} {x y : Bool} (h : a = b) (h' : x = y) : Ending.returned (.tuple #[.int k a, .bool x]) = .returned (.tuple #[.int k b, .bool y]) := by rw [h, h']

theorem neg_u64 (a : Int) (h0 : a < 0) (h1 : -9223372036854775808 ≤ a) : IntKind.u64.wrap (wrap64 (-a)) = -a := by
  rw [IntKind.wrap_u64]; unfold wrap64; omega
theorem neg_back (p : Int) (h0 : 0 ≤ p) (h1 : p ≤ 9223372036854775807) : wrap64 (-p) = -p := by
  unfold wrap64; omega

/-- 'magnitude' at a negative number. -/
theorem mag_neg (a : Int) (w : World) (h0 : a < 0) (h1 : -9223372036854775808 ≤ a) :
    Calls Ybad.prog 9 #[.int .i64 a] w fun e w' => e = .returned (.int .u64 (-a)) ∧ w' = w := by
  go_enter Ybad.func9, Ybad.ntmps9
  go_wp2
  go_ret
  exact ⟨ret_int (neg_u64 a h0 h1), rfl⟩
/-- 'magnitude' at a number that is not negative. -/
theorem mag_pos (a : Int) (w : World) (h0 : 0 ≤ a) (h1 : a ≤ 9223372036854775807) :
    Calls Ybad.prog 9 #[.int .i64 a] w fun e w' => e = .returned (.int .u64 a) ∧ w' = w := by
  go_enter Ybad.func9, Ybad.ntmps9
  go_wp2
  go_ret
  exact ⟨rfl, rfl⟩

theorem mul64N (x y : Nat) (hx : x < 18446744073709551616) (hy : y < 18446744073709551616) (w : World) :
    Calls Ybad.prog 8 #[.int .u64 x, .int .u64 y] w fun e w' => e = .returned (.tuple #[.int .u64 ((x * y / 18446744073709551616 : Nat) : Int), .int .u64 ((x * y % 18446744073709551616 : Nat) : Int)]) ∧ w' = w :=
  Ybad.bits_Mul64 x y hx hy w

/-- bits.Mul64 where the product fits one word. -/
theorem mul64_lo (x y p : Int) (w : World) (hx : 0 ≤ x) (hx' : x < 18446744073709551616) (hy : 0 ≤ y) (hy' : y < 18446744073709551616) (hp : x * y = p) (hs : p < 18446744073709551616) :
    Calls Ybad.prog 8 #[.int .u64 x, .int .u64 y] w fun e w' => e = .returned (.tuple #[.int .u64 0, .int .u64 p]) ∧ w' = w := by
  obtain ⟨x, rfl⟩ := Int.eq_ofNat_of_zero_le hx
  obtain ⟨y, rfl⟩ := Int.eq_ofNat_of_zero_le hy
  subst hp
  have hn : x * y < 18446744073709551616 := by
    have : ((x * y : Nat) : Int) < 18446744073709551616 := by rw [Int.natCast_mul]; exact hs
    omega
  refine (mul64N x y (by omega) (by omega) w).mono ?_
  rintro e w' ⟨rfl, rfl⟩
  rw [Nat.div_eq_of_lt hn, Nat.mod_eq_of_lt hn]
  exact ⟨by simp, rfl⟩

/-- bits.Mul64 where it does not: the high word is not 0. -/
theorem mul64_hi (x y : Int) (w : World) (hx : 0 ≤ x) (hx' : x < 18446744073709551616) (hy : 0 ≤ y) (hy' : y < 18446744073709551616) (hs : 18446744073709551616 ≤ x * y) :
    Calls Ybad.prog 8 #[.int .u64 x, .int .u64 y] w fun e w' => ∃ h l : Int, (e = .returned (.tuple #[.int .u64 h, .int .u64 l]) ∧ w' = w) ∧ 0 < h := by
  obtain ⟨x, rfl⟩ := Int.eq_ofNat_of_zero_le hx
  obtain ⟨y, rfl⟩ := Int.eq_ofNat_of_zero_le hy
  have hn : 18446744073709551616 ≤ x * y := by
    have : 18446744073709551616 ≤ ((x * y : Nat) : Int) := by rw [Int.natCast_mul]; exact hs
    omega
  refine (mul64N x y (by omega) (by omega) w).mono ?_
  rintro e w' ⟨rfl, rfl⟩
  refine ⟨_, _, ⟨rfl, rfl⟩, ?_⟩
  have : 0 < x * y / 18446744073709551616 := Nat.div_pos hn (by decide)
  omega

/-- The magnitude, as a plain function. -/
def mag (a : Int) : Int := if a < 0 then -a else a
theorem mag_lt {a : Int} (h : a < 0) : mag a = -a := if_pos h
theorem mag_ge {a : Int} (h : 0 ≤ a) : mag a = a := if_neg (by omega)
theorem mag_nn (a : Int) : 0 ≤ mag a := by unfold mag; split <;> omega
theorem mag_le {a : Int} (h1 : -9223372036854775808 ≤ a) (h2 : a ≤ 9223372036854775807) : mag a < 18446744073709551616 := by unfold mag; split <;> omega
theorem mag_any (a : Int) (w : World) (h1 : -9223372036854775808 ≤ a) (h2 : a ≤ 9223372036854775807) :
    Calls Ybad.prog 9 #[.int .i64 a] w fun e w' => e = .returned (.int .u64 (mag a)) ∧ w' = w := by
  by_cases h : a < 0
  · rw [mag_lt h]; exact mag_neg a w h h1
  · rw [mag_ge (by omega)]; exact mag_pos a w (by omega) h2

/-- What 'mulSmall' answers at a factor b that is at least 1: the product and whether its magnitude is at most the greatest int64. -/
def fitsB (a b : Int) : Bool := decide (mag a * b ≤ 9223372036854775807)
def prodV (a b : Int) : Int := if mag a * b ≤ 9223372036854775807 then a * b else 0
theorem fits_yes {a b : Int} (h : mag a * b ≤ 9223372036854775807) : fitsB a b = true := decide_eq_true h
theorem fits_no {a b : Int} (h : ¬ mag a * b ≤ 9223372036854775807) : fitsB a b = false := decide_eq_false h
theorem prod_no {a b : Int} (h : ¬ mag a * b ≤ 9223372036854775807) : prodV a b = 0 := if_neg h
theorem prod_neg {a b : Int} (h : mag a * b ≤ 9223372036854775807) (h0 : a < 0) : prodV a b = -(mag a * b) := by
  unfold prodV; rw [if_pos h, mag_lt h0, Int.neg_mul, Int.neg_neg]
theorem prod_pos {a b : Int} (h : mag a * b ≤ 9223372036854775807) (h0 : 0 ≤ a) : prodV a b = mag a * b := by
  unfold prodV; rw [if_pos h, mag_ge h0]

/-- 'mulSmall', the product fits, a negative. -/
theorem mul_neg_fit (a b p : Int) (w : World) (h0 : a < 0) (h1 : -9223372036854775808 ≤ a) (hb : 1 ≤ b) (hb' : b ≤ 9223372036854775807) (hp : mag a * mag b = p) (hs : p ≤ 9223372036854775807) :
    Calls Ybad.prog 7 #[.int .i64 a, .int .i64 b] w fun e w' => e = .returned (.tuple #[.int .i64 (-p), .bool true]) ∧ w' = w := by
  have hp0 : 0 ≤ p := by rw [← hp]; exact Int.mul_nonneg (mag_nn a) (mag_nn b)
  have c8 := mul64_lo (mag a) (mag b) p w (mag_nn a) (mag_le h1 (by omega)) (mag_nn b) (mag_le (by omega) hb') hp (by omega)
  clear hp
  have hb0 : decide (b < 0) = false := decide_eq_false (by omega)
  go_enter Ybad.func7, Ybad.ntmps7
  go_wp2_with (first
    | (go_at_call 9; refine (mag_any _ _ (by omega) (by omega)).mono ?_; rintro e w' ⟨rfl, rfl⟩)
    | (go_at_call 8; refine c8.mono ?_; rintro e w' ⟨rfl, rfl⟩))
  go_ret2
  exact ⟨rfl, rfl⟩
/-- 'mulSmall', the product fits, a not negative. -/
theorem mul_pos_fit (a b p : Int) (w : World) (h0 : 0 ≤ a) (h1 : a ≤ 9223372036854775807) (hb : 1 ≤ b) (hb' : b ≤ 9223372036854775807) (hp : mag a * mag b = p) (hs : p ≤ 9223372036854775807) :
    Calls Ybad.prog 7 #[.int .i64 a, .int .i64 b] w fun e w' => e = .returned (.tuple #[.int .i64 p, .bool true]) ∧ w' = w := by
  have hp0 : 0 ≤ p := by rw [← hp]; exact Int.mul_nonneg (mag_nn a) (mag_nn b)
  have c8 := mul64_lo (mag a) (mag b) p w (mag_nn a) (mag_le (by omega) h1) (mag_nn b) (mag_le (by omega) hb') hp (by omega)
  clear hp
  have ha0 : decide (a < 0) = false := decide_eq_false (by omega)
  have hb0 : decide (b < 0) = false := decide_eq_false (by omega)
  go_enter Ybad.func7, Ybad.ntmps7
  go_wp2_with (first
    | (go_at_call 9; refine (mag_any _ _ (by omega) (by omega)).mono ?_; rintro e w' ⟨rfl, rfl⟩)
    | (go_at_call 8; refine c8.mono ?_; rintro e w' ⟨rfl, rfl⟩))
  go_ret2
  exact ⟨rfl, rfl⟩
/-- 'mulSmall', the product takes one word and passes the greatest int64. -/
theorem mul_lo_no (a b p : Int) (w : World) (h0 : -9223372036854775808 ≤ a) (h1 : a ≤ 9223372036854775807) (hb : 1 ≤ b) (hb' : b ≤ 9223372036854775807) (hp : mag a * mag b = p) (hs : 9223372036854775807 < p) (hs' : p < 18446744073709551616) :
    Calls Ybad.prog 7 #[.int .i64 a, .int .i64 b] w fun e w' => e = .returned (.tuple #[.int .i64 0, .bool false]) ∧ w' = w := by
  have c8 := mul64_lo (mag a) (mag b) p w (mag_nn a) (mag_le h0 h1) (mag_nn b) (mag_le (by omega) hb') hp (by omega)
  clear hp
  go_enter Ybad.func7, Ybad.ntmps7
  go_wp2_with (first
    | (go_at_call 9; refine (mag_any _ _ (by omega) (by omega)).mono ?_; rintro e w' ⟨rfl, rfl⟩)
    | (go_at_call 8; refine c8.mono ?_; rintro e w' ⟨rfl, rfl⟩))
  go_ret2
  exact ⟨rfl, rfl⟩
/-- 'mulSmall', the product takes two words. -/
theorem mul_hi_no (a b : Int) (w : World) (h0 : -9223372036854775808 ≤ a) (h1 : a ≤ 9223372036854775807) (hb : 1 ≤ b) (hb' : b ≤ 9223372036854775807) (hs : 18446744073709551616 ≤ mag a * mag b) :
    Calls Ybad.prog 7 #[.int .i64 a, .int .i64 b] w fun e w' => e = .returned (.tuple #[.int .i64 0, .bool false]) ∧ w' = w := by
  have c8 := mul64_hi (mag a) (mag b) w (mag_nn a) (mag_le h0 h1) (mag_nn b) (mag_le (by omega) hb') hs
  clear hs
  go_enter Ybad.func7, Ybad.ntmps7
  go_wp2_with (first
    | (go_at_call 9; refine (mag_any _ _ (by omega) (by omega)).mono ?_; rintro e w' ⟨rfl, rfl⟩)
    | (go_at_call 8; refine c8.mono ?_; rintro e w' ⟨h, l, ⟨rfl, rfl⟩, hne⟩))
  go_ret2
  exact ⟨rfl, rfl⟩
/-- 'mulSmall' at a factor that is at least 1. -/
theorem mul_any (a b : Int) (w : World) (h0 : -9223372036854775808 ≤ a) (h1 : a ≤ 9223372036854775807) (hb : 1 ≤ b) (hb' : b ≤ 9223372036854775807) :
    Calls Ybad.prog 7 #[.int .i64 a, .int .i64 b] w fun e w' => e = .returned (.tuple #[.int .i64 (prodV a b), .bool (fitsB a b)]) ∧ w' = w := by
  have eb : mag b = b := mag_ge (by omega)
  by_cases h : mag a * b ≤ 9223372036854775807
  · rw [fits_yes h]
    by_cases hn : a < 0
    · rw [prod_neg h hn]; exact mul_neg_fit a b _ w hn h0 hb hb' (by rw [eb]) h
    · rw [prod_pos h (by omega)]; exact mul_pos_fit a b _ w (by omega) h1 hb hb' (by rw [eb]) h
  · rw [fits_no h, prod_no h]
    by_cases h' : mag a * b < 18446744073709551616
    · exact mul_lo_no a b _ w h0 h1 hb hb' (by rw [eb]) (by omega) h'
    · exact mul_hi_no a b w h0 h1 hb hb' (by rw [eb]; omega)

/-- The powers of ten. -/
def p10 (k : Nat) : Int := 10 ^ k
theorem p10_zero : p10 0 = 1 := rfl
theorem p10_succ (k : Nat) : p10 (k + 1) = p10 k * 10 := Int.pow_succ 10 k
theorem p10_pos (k : Nat) : 1 ≤ p10 k := by
  induction k with
  | zero => decide
  | succ k ih => rw [p10_succ]; omega
theorem p10_mono {k n : Nat} (h : k ≤ n) : p10 k ≤ p10 n := by
  induction h with
  | refl => exact Int.le_refl _
  | step _ ih => rw [p10_succ]; have := p10_pos k; omega
theorem p10_top {n : Nat} (h : n ≤ 18) : p10 n ≤ 9223372036854775807 := Int.le_trans (p10_mono h) (by decide)

/-- 'scaleSmall' where the table reaches. -/
theorem scale_in (a : Int) (n : Nat) (w : World) (h0 : -9223372036854775808 ≤ a) (h1 : a ≤ 9223372036854775807) (hn : n ≤ 18) (hc : w.cell? ⟨0, n, none⟩ = some (.int .i64 (p10 n))) :
    Calls Ybad.prog 5 #[.int .i64 a, .int .i64 n] w fun e w' => e = .returned (.tuple #[.int .i64 (prodV a (p10 n)), .bool (fitsB a (p10 n))]) ∧ w' = w := by
  have c7 := mul_any a (p10 n) w h0 h1 (p10_pos n) (p10_top hn)
  go_enter Ybad.func5, Ybad.ntmps5
  go_wp2_with (go_at_call 7; refine c7.mono ?_; rintro e w' ⟨rfl, rfl⟩)
  go_ret2
  exact ⟨rfl, rfl⟩
/-- 'scaleSmall' beyond it. -/
theorem scale_out (a : Int) (n : Nat) (w : World) (hn : 19 ≤ n) (hn' : n < 24) :
    Calls Ybad.prog 5 #[.int .i64 a, .int .i64 n] w fun e w' => e = .returned (.tuple #[.int .i64 0, .bool false]) ∧ w' = w := by
  go_enter Ybad.func5, Ybad.ntmps5
  go_wp2
  go_ret2
  exact ⟨rfl, rfl⟩

/-! ### the model -/
theorem step_over {m P Q : Int} (h : 922337203685477580 < m * P) (hm : 0 ≤ m) (hq : P * 10 ≤ Q) : ¬ m * Q ≤ 9223372036854775807 := by
  have h1 : m * (P * 10) ≤ m * Q := Int.mul_le_mul_of_nonneg_left hq hm
  have h2 : m * (P * 10) = m * P * 10 := (Int.mul_assoc m P 10).symm
  omega
theorem step_on {m P Q : Int} (h : m * P ≤ 922337203685477580) (hq : Q = P * 10) : m * Q = m * P * 10 ∧ m * Q ≤ 9223372036854775807 := by
  subst hq
  have h2 : m * (P * 10) = m * P * 10 := (Int.mul_assoc m P 10).symm
  omega

set_option maxHeartbeats 800000 in
/-- The model within its reach. -/
theorem model_in (a : Int) (n : Nat) (w : World) (h0 : -9223372036854775808 ≤ a) (h1 : a ≤ 9223372036854775807) (hn : n ≤ 18) :
    Calls Ybad.prog 6 #[.int .i64 a, .int .i64 n] w fun e w' => e = .returned (.tuple #[.int .i64 (prodV a (p10 n)), .bool (fitsB a (p10 n))]) ∧ w' = w := by
  have hm0 := mag_nn a
  have hm1 : mag a ≤ 9223372036854775808 := by unfold mag; split <;> omega
  by_cases hneg : a < 0
  · have HE : Hid (IntKind.u64.wrap (wrap64 (-a)) = mag a) := by rw [mag_lt hneg]; exact neg_u64 a hneg h0
    go_enter Ybad.func6, Ybad.ntmps6
    go_wp2
    go_loop [6, 7] (fun m i => ∃ k : Nat, ∃ M : Int, k ≤ n ∧ i = .int .i64 k ∧ m = .int .u64 M ∧ Hid (M = mag a * p10 k) ∧ 0 ≤ M ∧ M ≤ 9223372036854775808) (fun _ i => n - (intOf i).toNat)
    case atStart => exact ⟨0, mag a, Nat.zero_le _, rfl, congrArg (Value.int .u64) HE.out, (Int.mul_one _).symm, hm0, hm1⟩
    case round =>
      obtain ⟨k, M, hk, rfl, rfl, HM, hM0, hM1⟩ := hrel
      by_cases hlt : k < n
      · by_cases hov : 922337203685477580 < M
        · have hno : ¬ mag a * p10 n ≤ 9223372036854775807 := step_over (P := p10 k) (by rw [← HM.out]; exact hov) hm0 (by rw [← p10_succ]; exact p10_mono hlt)
          have H1 : Hid (prodV a (p10 n) = 0) := prod_no hno
          have H2 : Hid (fitsB a (p10 n) = false) := fits_no hno
          clear hno
          go_wp2
          go_ret2
          exact ⟨ret_ib H1.out.symm H2.out.symm, rfl⟩
        · have hs := step_on (m := mag a) (P := p10 k) (by rw [← HM.out]; omega) (p10_succ k)
          have HS : Hid (M * 10 = mag a * p10 (k + 1)) := by rw [HM.out]; exact hs.1.symm
          clear hs
          go_wp2
          go_round
          case rel => exact ⟨k + 1, M * 10, by omega, by go_num, by go_num, HS.out, by omega, by omega⟩
          case measure => simp [intOf]; omega
      · obtain rfl : k = n := by omega
        by_cases hov : 9223372036854775807 < M
        · have hno : ¬ mag a * p10 k ≤ 9223372036854775807 := by rw [← HM.out]; omega
          have H1 : Hid (prodV a (p10 k) = 0) := prod_no hno
          have H2 : Hid (fitsB a (p10 k) = false) := fits_no hno
          clear hno
          go_wp2
          go_ret2
          exact ⟨ret_ib H1.out.symm H2.out.symm, rfl⟩
        · have hyes : mag a * p10 k ≤ 9223372036854775807 := by rw [← HM.out]; omega
          have H1 : Hid (prodV a (p10 k) = -M) := by have := prod_neg hyes hneg; rw [← HM.out] at this; exact this
          have H2 : Hid (fitsB a (p10 k) = true) := fits_yes hyes
          clear hyes
          go_wp2
          go_ret2
          exact ⟨ret_ib H1.out.symm H2.out.symm, rfl⟩
  · have hpos : 0 ≤ a := by omega
    clear hneg
    go_enter Ybad.func6, Ybad.ntmps6
    go_wp2
    go_loop [6, 7] (fun m i => ∃ k : Nat, ∃ M : Int, k ≤ n ∧ i = .int .i64 k ∧ m = .int .u64 M ∧ Hid (M = mag a * p10 k) ∧ 0 ≤ M ∧ M ≤ 9223372036854775808) (fun _ i => n - (intOf i).toNat)
    case atStart => exact ⟨0, mag a, Nat.zero_le _, rfl, congrArg (Value.int .u64) (mag_ge hpos).symm, (Int.mul_one _).symm, hm0, hm1⟩
    case round =>
      obtain ⟨k, M, hk, rfl, rfl, HM, hM0, hM1⟩ := hrel
      by_cases hlt : k < n
      · by_cases hov : 922337203685477580 < M
        · have hno : ¬ mag a * p10 n ≤ 9223372036854775807 := step_over (P := p10 k) (by rw [← HM.out]; exact hov) hm0 (by rw [← p10_succ]; exact p10_mono hlt)
          have H1 : Hid (prodV a (p10 n) = 0) := prod_no hno
          have H2 : Hid (fitsB a (p10 n) = false) := fits_no hno
          clear hno
          go_wp2
          go_ret2
          exact ⟨ret_ib H1.out.symm H2.out.symm, rfl⟩
        · have hs := step_on (m := mag a) (P := p10 k) (by rw [← HM.out]; omega) (p10_succ k)
          have HS : Hid (M * 10 = mag a * p10 (k + 1)) := by rw [HM.out]; exact hs.1.symm
          clear hs
          go_wp2
          go_round
          case rel => exact ⟨k + 1, M * 10, by omega, by go_num, by go_num, HS.out, by omega, by omega⟩
          case measure => simp [intOf]; omega
      · obtain rfl : k = n := by omega
        by_cases hov : 9223372036854775807 < M
        · have hno : ¬ mag a * p10 k ≤ 9223372036854775807 := by rw [← HM.out]; omega
          have H1 : Hid (prodV a (p10 k) = 0) := prod_no hno
          have H2 : Hid (fitsB a (p10 k) = false) := fits_no hno
          clear hno
          go_wp2
          go_ret2
          exact ⟨ret_ib H1.out.symm H2.out.symm, rfl⟩
        · have hyes : mag a * p10 k ≤ 9223372036854775807 := by rw [← HM.out]; omega
          have H1 : Hid (prodV a (p10 k) = M) := by have := prod_pos hyes hpos; rw [← HM.out] at this; exact this
          have H2 : Hid (fitsB a (p10 k) = true) := fits_yes hyes
          clear hyes
          go_wp2
          go_ret2
          exact ⟨ret_ib H1.out.symm H2.out.symm, rfl⟩
/-- The model beyond it. -/
theorem model_out (a : Int) (n : Nat) (w : World) (hn : 19 ≤ n) (hn' : n < 24) :
    Calls Ybad.prog 6 #[.int .i64 a, .int .i64 n] w fun e w' => e = .returned (.tuple #[.int .i64 0, .bool false]) ∧ w' = w := by
  go_enter Ybad.func6, Ybad.ntmps6
  go_wp2
  go_ret2
  exact ⟨rfl, rfl⟩

/-- The law where the table reaches. -/
theorem law_in (a b : Int) (n : Nat) (w : World) (h0 : -9223372036854775808 ≤ a) (h1 : a ≤ 9223372036854775807) (hb : 0 ≤ b) (hb' : b ≤ 255) (hbn : b % 24 = n) (hn : n ≤ 18) (hc : w.cell? ⟨0, n, none⟩ = some (.int .i64 (p10 n))) :
    Calls Ybad.prog 3 #[.int .i64 a, .int .u8 b] w fun e w' => e = .returned (.bool true) ∧ w' = w := by
  have c5 := scale_in a n w h0 h1 hn hc
  have c6 := model_in a n w h0 h1 hn
  clear hc
  go_enter Ybad.func3, Ybad.ntmps3
  go_wp2_with (first
    | (go_at_call 5; refine c5.mono ?_; rintro e w' ⟨rfl, rfl⟩)
    | (go_at_call 6; refine c6.mono ?_; rintro e w' ⟨rfl, rfl⟩))
  go_ret
  exact ⟨rfl, rfl⟩
/-- The law beyond it. -/
theorem law_out (a b : Int) (n : Nat) (w : World) (hb : 0 ≤ b) (hb' : b ≤ 255) (hbn : b % 24 = n) (hn : 19 ≤ n) :
    Calls Ybad.prog 3 #[.int .i64 a, .int .u8 b] w fun e w' => e = .returned (.bool true) ∧ w' = w := by
  have c5 := scale_out a n w hn (by omega)
  have c6 := model_out a n w hn (by omega)
  go_enter Ybad.func3, Ybad.ntmps3
  go_wp2_with (first
    | (go_at_call 5; refine c5.mono ?_; rintro e w' ⟨rfl, rfl⟩)
    | (go_at_call 6; refine c6.mono ?_; rintro e w' ⟨rfl, rfl⟩))
  go_ret
  exact ⟨rfl, rfl⟩
end Go.Proofs.YbulkdfuwDoor
