/-
  The walk of LawS5349CShape.
-/
import Derived.Test.YbulkdftgShapeLaw
import Derived.Laws.IdiomStrings
import Derived.Laws.OwnMore
import Derived.Deep.QuietTactic
import Derived.BigQuiet
import Derived.Outline
import Derived.WalkSmall
namespace Go.Proofs.Ybulkdftg
open Go.RowKit

/-- Too long a slice: true at once. -/
theorem shape_long (a0 : Option Addr) (len cap : Nat) (a1 : Int) (w : World) (h : 1024 < len) :
    Calls Yba.prog 7 #[.slice a0 len cap, .int .u16 a1] w fun e w' => e = .returned (.bool true) ∧ Below w.heap.size w w' := by
  have h' : (1024 : Int) < (len : Int) := by omega
  go_enter Yba.func7, Yba.ntmps7
  go_wp2
  go_ret
  exact ⟨rfl, Below.refl _ _⟩

theorem Yba.info5s : (Yba.prog.info? 5).map (fun i => (i.zero, i.size, i.bytes)) = some (some (.int .u8 0), 1, 1) := by kernel_rfl

/-- The first loop's row: so many bytes, zeros behind them. -/
def Half (w : World) (N len k : Nat) (D : List UInt8) : Prop :=
  D.length = k ∧ w.ownsRow N 5 1 (.slice (some ⟨N, 0, none⟩) len len) len (Lib.byteCells D ++ List.replicate (len - k) (.int .u8 0))
theorem Half.step {w : World} {N len k : Nat} {D : List UInt8} (h : Half w N len k D) (hk : k < len) (c : UInt8) :
    Half (w.setCell ⟨N, k, none⟩ (.int .u8 c.toNat)) N len (k + 1) (D ++ [c]) := by
  obtain ⟨hl, ho⟩ := h
  refine ⟨by simp [hl], ?_⟩
  have h1 := (ho.stored k (.int .u8 c.toNat)).1
  have e : (Lib.byteCells D ++ List.replicate (len - k) (Value.int .u8 0)).set k (.int .u8 c.toNat) = Lib.byteCells (D ++ [c]) ++ List.replicate (len - (k + 1)) (.int .u8 0) := by
    have hd : (Lib.byteCells D).length = k := by rw [Lib.byteCells_length, hl]
    obtain ⟨m, hm⟩ : ∃ m, len - k = m + 1 := ⟨len - k - 1, by omega⟩
    have hm' : len - (k + 1) = m := by omega
    rw [List.set_append_right _ _ (by omega), hd, Nat.sub_self, hm, hm', List.replicate_succ, Lib.byteCells_append]
    simp [Lib.byteCells]
  rw [e] at h1
  exact h1
theorem Half.conv {w : World} {N len : Nat} {D : List UInt8} (h : Half w N len len D) :
    (convert 26 9 (.slice (some ⟨N, 0, none⟩) len len)).run Yba.prog w = .ok (.string ⟨D.toArray⟩) w := by
  obtain ⟨hl, ho⟩ := h
  subst hl
  refine run_convert_bytes_back w 26 9 5 ⟨N, 0, none⟩ D.length D Yba.underlying26 Yba.underlying5 Yba.underlying9 fun j hj => ?_
  have hadd : (⟨N, 0, none⟩ : Addr).add j = ⟨N, j, none⟩ := by unfold Addr.add; split <;> simp_all
  rw [hadd, ho.cellAt j (by omega)]
  simp [Lib.byteCells, hj]

theorem Half.start {w : World} {N len : Nat} (h : w.ownsRow N 5 1 (.slice (some ⟨N, 0, none⟩) len len) len (madeCells (Value.int .u8 0).cells (len * 1)).toList) : Half w N len 0 [] := by
  refine ⟨rfl, ?_⟩
  have e : (madeCells (Value.int .u8 0).cells (len * 1)).toList = Lib.byteCells [] ++ List.replicate (len - 0) (.int .u8 0) := by
    rw [Nat.mul_one]
    exact toList_madeCells_one (.int .u8 0) len
  rw [e] at h
  exact h

/-- Where the bytes of the text stand. -/
structure Spots (S ds : ByteArray) (z p : Nat) : Prop where
  point : ∀ h : p < S.size, (S[p]'h).toNat = 46
  zero : ∀ i j (h : i < S.size), ((i < p ∧ j = i) ∨ (p < i ∧ i = j + 1)) → j < z → (S[i]'h).toNat = 48
  digit : ∀ i j m (h : i < S.size) (hm : m < ds.size), ((i < p ∧ j = i) ∨ (p < i ∧ i = j + 1)) → j = z + m → (S[i]'h).toNat = (ds[m]'hm).toNat
theorem spots (S ds : ByteArray) (D : List UInt8) (k : Nat) (hk : 0 < k) (hS : S.data.toList = plain D k) (hd : ds.data.toList = D) : Spots S ds (k + 1 - D.length) (k + 1 - D.length + D.length - k) := by
  refine ⟨fun h => ?_, fun i j h hj hz => ?_, fun i j m h hm hj hjm => ?_⟩
  · rw [byte_at S _ h 46 (by rw [hS]; exact plain_point D k hk)]; rfl
  · rw [byte_at S i h 48 (by rw [hS, plain_at D k i j hk hj]; exact padded_zero D k j hz)]; rfl
  · rw [byte_at S i h (ds[m]'hm) (by rw [hS, plain_at D k i j hk hj, padded_digit D k j (by omega), hjm, Nat.add_sub_cancel_left, ← hd]; exact get_at ds m hm)]

set_option maxHeartbeats 4000000 in
set_option maxRecDepth 100000 in
theorem shape_main (a0 : Option Addr) (len cap : Nat) (zs : List Int) (a1 : Int) (k : Nat) (w : World) (h : len ≤ 1024) (e0 : 0 ≤ a1) (e1 : a1 ≤ 65535) (hk : a1 % 1025 = k) 
    (hrow : 0 < len → ∃ b off, a0 = some ⟨b, off, none⟩ ∧ b < w.heap.size ∧ ∀ j, j < len → w.cell? ⟨b, off + j, none⟩ = some (.int .u8 (zs.getD j 0)) ∧ 0 ≤ zs.getD j 0 ∧ zs.getD j 0 ≤ 255) :
    Calls Yba.prog 7 #[.slice a0 len cap, .int .u16 a1] w fun e w' => e = .returned (.bool true) ∧ Below w.heap.size w w' := by
  have h' : (len : Int) ≤ 1024 := by omega
  obtain ⟨i5, hi5, hz5, hs5, hb5⟩ := info_parts Yba.info5s
  have HR : Hid (0 < len → ∃ b off, a0 = some ⟨b, off, none⟩ ∧ b < w.heap.size ∧ ∀ j, j < len → w.cell? ⟨b, off + j, none⟩ = some (.int .u8 (zs.getD j 0)) ∧ 0 ≤ zs.getD j 0 ∧ zs.getD j 0 ≤ 255) := hrow
  clear hrow
  go_enter Yba.func7, Yba.ntmps7
  go_wp2_with (at_make; refine wpList_make_full _ rfl _ _ 26 rfl w.heap.size 5 i5 (.int .u8 0) 1 Yba.underlying26 hi5 hz5 hs5 _ _ _ _ len rfl rfl rfl rfl (by rw [hb5]; omega) (by unfold maxLen; omega) (Nat.le_refl _) ?_; intro w1 own1 grow1)
  have H0 : Hid (Half w1 w.heap.size len 0 [] ∧ Below w.heap.size w w1) := ⟨Half.start own1, Below.grown (Below.refl _ _) grow1 (Nat.le_refl _) (fun k hk => by cases hk)⟩
  clear own1 grow1 hi5 hz5 hs5 hb5
  go_loopw [26] (fun i wr => ∃ k' : Nat, ∃ D : List UInt8, k' ≤ len ∧ i = .int .i64 k' ∧ Hid (Half wr w.heap.size len k' D ∧ Below w.heap.size w wr)) (fun i _ => len - (intOf i).toNat)
  case atStart => exact ⟨0, [], Nat.zero_le _, rfl, H0⟩
  case round =>
    obtain ⟨k', D, hk', rfl, HD⟩ := hrel
    by_cases hlt : k' < len
    · obtain ⟨b, off, rfl, hb, hcs⟩ := HR.out (by omega)
      obtain ⟨hc, hz0, hz1⟩ := hcs k' hlt
      obtain ⟨hf, bel⟩ := HD.out
      have hcr : wr.cell? ⟨b, off + k', none⟩ = some (.int .u8 (zs.getD k' 0)) := (bel.cell hb).trans hc
      obtain ⟨z, hz⟩ : ∃ z, z = zs.getD k' 0 := ⟨_, rfl⟩
      rw [← hz] at hcr hz0 hz1
      have hold : wr.cell? ⟨w.heap.size, k', none⟩ = some (.int .u8 0) := by
        rw [hf.2.cellAt k' (by omega), List.getElem?_append_right (by rw [Lib.byteCells_length, hf.1]; exact Nat.le_refl _), List.getElem?_replicate, if_pos (by rw [Lib.byteCells_length, hf.1]; omega)]
      have hfr : wr.frozen? ⟨w.heap.size, k', none⟩ = false := hf.2.frozenAt k'
      clear hz hc hcs hf bel
      have hlt' : (k' : Int) < (len : Int) := by omega
      go_wp2
      go_roundw
      case rel => exact ⟨k' + 1, _, by omega, by go_num, HD.out.1.step hlt _, HD.out.2.setCell (Nat.le_refl _) _⟩
      case measure => simp [intOf]; omega
    · obtain rfl : k' = len := by omega
      obtain ⟨hf, bel⟩ := HD.out
      have hcv := hf.conv
      have hlen : D.length = k' := hf.1
      have zr : w.heap.size ≤ wr.heap.size := bel.size
      obtain ⟨ds, hds⟩ : ∃ ds : ByteArray, ds = ⟨D.toArray⟩ := ⟨_, rfl⟩
      rw [← hds] at hcv
      have hdl : ds.data.toList = D := by rw [hds]
      have hsz : ds.size ≤ 1024 := by rw [← list_len, hdl, hlen]; exact h
      have cP := plain_any wr.heap.size wr.heap.size [] ds k (wr.alloc (.cells #[.pointer none, .slice none 0 0] 48)) (Lib.fresh_isBuilder 48 5 wr) hsz (by simp) (by simp) (by omega)
      rw [List.nil_append, hdl] at cP
      have BR : Hid (Below w.heap.size w wr ∧ w.heap.size ≤ wr.heap.size) := ⟨bel, zr⟩
      have HD2 : Hid (ds.data.toList = D ∧ ds.size = D.length) := ⟨hdl, by rw [← list_len, hdl]⟩
      clear hf bel hlen hds hdl zr HD H0 HR
      go_wp2_with fail
      refine cP.mono ?_
      clear cP
      rintro e w3 ⟨rfl, i3, b3, z3⟩
      have c21 := Yba.Builder_String_any wr.heap.size wr.heap.size (plain D k) w3 i3 z3
      obtain ⟨S, hS⟩ : ∃ S : ByteArray, S = ⟨(plain D k).toArray⟩ := ⟨_, rfl⟩
      rw [← hS] at c21
      have BE : Hid (Below w.heap.size w w3 ∧ w.heap.size ≤ wr.heap.size) := ⟨BR.out.1.trans ((((Below.refl wr.heap.size wr).alloc (Nat.le_refl _) _).trans b3).mono BR.out.2), BR.out.2⟩
      clear i3 b3 z3 BR
      go_wp2_with fail
      refine c21.mono ?_
      clear c21
      rintro e w4 ⟨rfl, b4⟩
      have BF : Hid (Below w.heap.size w w4) := BE.out.1.trans (b4.mono BE.out.2)
      clear b4 BE hcv
      by_cases hk0 : k = 0
      · subst hk0
        obtain rfl : S = ds := by
          rw [hS]
          apply ByteArray.ext
          have : plain D 0 = D := rfl
          rw [this, ← HD2.out.1]
        clear hS HD2
        go_wp2
        go_ret
        exact ⟨rfl, BF.out⟩
      · have hsd : S.data.toList = plain D k := by rw [hS]
        have hsz2 : S.size = k + 1 - D.length + D.length + 1 := by rw [← list_len, hsd, plain_len D k (by omega)]
        have SP0 := spots S ds D k (by omega) hsd HD2.out.1
        rw [← HD2.out.2] at SP0 hsz2
        obtain ⟨p, hp⟩ : ∃ p, p = k + 1 - ds.size + ds.size - k := ⟨_, rfl⟩
        rw [← hp] at SP0
        have hpS : (S.size : Int) - (k : Int) - 1 = (p : Int) := by omega
        have hp1 : (1 : Int) ≤ (p : Int) := by omega
        have hpl : (p : Int) < (S.size : Int) := by omega
        clear hS hsd HD2
        by_cases hkn : k + 1 < ds.size
        · have hz : k + 1 - ds.size = 0 := by omega
          rw [hz] at SP0
          have SP : Hid (Spots S ds 0 p) := SP0
          have hS1 : (S.size : Int) ≤ (ds.size : Int) + 1 := by omega
          have hS2 : (ds.size : Int) + 1 ≤ (S.size : Int) := by omega
          have hk1 : (1 : Int) ≤ (k : Int) := by omega
          have hpn : p < S.size := by omega
          have hkd : (k : Int) + 1 - (ds.size : Int) < 0 := by omega
          clear SP0 hp hsz2 hz hk0
          have hpt : (((S[p]'hpn).toNat : Int) != 46) = false := by rw [SP.out.point hpn]; rfl
          go_wp2
          · go_loopw [16] (fun i wx => ∃ q : Nat, q ≤ S.size ∧ i = .int .i64 q ∧ Hid (Below w.heap.size w wx)) (fun i _ => S.size - (intOf i).toNat)
            case atStart => exact ⟨0, Nat.zero_le _, rfl, BF⟩
            case round =>
              obtain ⟨q, hq, rfl, BG⟩ := hrel
              by_cases hlt : q < S.size
              · have hlt' : (q : Int) < (S.size : Int) := by omega
                by_cases hqp : q = p
                · subst hqp
                  go_wp2
                  go_roundw
                  case rel => exact ⟨q + 1, by omega, by go_num, BG⟩
                  case measure => simp [intOf]; omega
                by_cases hqs : q < p
                · have hne : ((q : Int) == (p : Int)) = false := by
                    simp only [beq_eq_false_iff_ne, ne_eq]
                    omega
                  have hqi : (q : Int) < (p : Int) := by omega
                  · have hm : q = 0 + q := by omega
                    have hmd : (q : Int) < (ds.size : Int) := by omega
                    have hmn : q < ds.size := by omega
                    have HM : Hid (q = 0 + q) := hm
                    clear hm
                    go_wp2
                    go_quiet (fail)
                    go_wp2
                    · exfalso
                      have hx : (((S[q]'hlt).toNat : Int) != ((ds[q]'hmn).toNat : Int)) = true := by assumption
                      rw [SP.out.digit q q q hlt hmn (Or.inl ⟨hqs, rfl⟩) HM.out] at hx
                      simp at hx
                    · go_roundw
                      case rel => first | exact ⟨q + 1, by omega, by go_num, below_drewN BG.out _⟩ | ((repeat apply Exists.intro); exact ⟨⟨q + 1, by omega, by go_num, below_drewN BG.out _⟩, rfl⟩)
                      case measure => simp [intOf]; omega
                · obtain ⟨j, rfl⟩ : ∃ j, q = j + 1 := ⟨q - 1, by omega⟩
                  have hne : ((j : Int) + 1 == (p : Int)) = false := by
                    simp only [beq_eq_false_iff_ne, ne_eq]
                    omega
                  have hqs : p < j + 1 := by omega
                  have hqi : (p : Int) < (j : Int) + 1 := by omega
                  have hlj : (j : Int) + 1 < (S.size : Int) := by omega
                  have hl0 : (0 : Int) ≤ (j : Int) + 1 := by omega
                  have hjn : ((j : Int) + 1).toNat = j + 1 := by omega
                  clear hlt'
                  · have hm : j = 0 + j := by omega
                    have hmd : (j : Int) < (ds.size : Int) := by omega
                    have hmn : j < ds.size := by omega
                    have HM : Hid (j = 0 + j) := hm
                    clear hm
                    go_wp2
                    go_quiet (fail)
                    go_wp2
                    · exfalso
                      have hx : (((S[j + 1]'hlt).toNat : Int) != ((ds[j]'hmn).toNat : Int)) = true := by assumption
                      rw [SP.out.digit (j + 1) j j hlt hmn (Or.inr ⟨hqs, rfl⟩) HM.out] at hx
                      simp at hx
                    · go_roundw
                      case rel => first | exact ⟨j + 1 + 1, by omega, by go_num, below_drewN BG.out _⟩ | ((repeat apply Exists.intro); exact ⟨⟨j + 1 + 1, by omega, by go_num, below_drewN BG.out _⟩, rfl⟩)
                      case measure => simp [intOf]; omega
              · go_wp2
                go_ret
                exact ⟨rfl, BG.out⟩
        · obtain ⟨z, hz⟩ : ∃ z, k + 1 - ds.size = z := ⟨_, rfl⟩
          have hzr : (k : Int) + 1 - (ds.size : Int) = (z : Int) := by omega
          rw [hz] at SP0
          have SP : Hid (Spots S ds z p) := SP0
          have hS1 : (S.size : Int) ≤ (z : Int) + (ds.size : Int) + 1 := by omega
          have hS2 : (z : Int) + (ds.size : Int) + 1 ≤ (S.size : Int) := by omega
          have hk1 : (1 : Int) ≤ (k : Int) := by omega
          have hpn : p < S.size := by omega
          clear SP0 hp hsz2 hz hkn hk0
          have hpt : (((S[p]'hpn).toNat : Int) != 46) = false := by rw [SP.out.point hpn]; rfl
          go_wp2
          · go_loopw [16] (fun i wx => ∃ q : Nat, q ≤ S.size ∧ i = .int .i64 q ∧ Hid (Below w.heap.size w wx)) (fun i _ => S.size - (intOf i).toNat)
            case atStart => exact ⟨0, Nat.zero_le _, rfl, BF⟩
            case round =>
              obtain ⟨q, hq, rfl, BG⟩ := hrel
              by_cases hlt : q < S.size
              · have hlt' : (q : Int) < (S.size : Int) := by omega
                by_cases hqp : q = p
                · subst hqp
                  go_wp2
                  go_roundw
                  case rel => exact ⟨q + 1, by omega, by go_num, BG⟩
                  case measure => simp [intOf]; omega
                by_cases hqs : q < p
                · have hne : ((q : Int) == (p : Int)) = false := by
                    simp only [beq_eq_false_iff_ne, ne_eq]
                    omega
                  have hqi : (q : Int) < (p : Int) := by omega
                  by_cases hjz : q < z
                  · have hji : (q : Int) < (z : Int) := by omega
                    go_wp2
                    · exfalso
                      have hx : (((S[q]'hlt).toNat : Int) != 48) = true := by assumption
                      rw [SP.out.zero q q hlt (Or.inl ⟨hqs, rfl⟩) hjz] at hx
                      simp at hx
                    · go_roundw
                      case rel => exact ⟨q + 1, by omega, by go_num, BG⟩
                      case measure => simp [intOf]; omega
                  · obtain ⟨m, hm⟩ : ∃ m, q = z + m := ⟨q - z, by omega⟩
                    have hji : ¬ (q : Int) < (z : Int) := by omega
                    have hjm : (q : Int) - (z : Int) = (m : Int) := by omega
                    have hmd : (m : Int) < (ds.size : Int) := by omega
                    have hmn : m < ds.size := by omega
                    have HM : Hid (q = z + m) := hm
                    clear hm
                    go_wp2
                    go_quiet (fail)
                    go_wp2
                    · exfalso
                      have hx : (((S[q]'hlt).toNat : Int) != ((ds[m]'hmn).toNat : Int)) = true := by assumption
                      rw [SP.out.digit q q m hlt hmn (Or.inl ⟨hqs, rfl⟩) HM.out] at hx
                      simp at hx
                    · go_roundw
                      case rel => first | exact ⟨q + 1, by omega, by go_num, below_drewN BG.out _⟩ | ((repeat apply Exists.intro); exact ⟨⟨q + 1, by omega, by go_num, below_drewN BG.out _⟩, rfl⟩)
                      case measure => simp [intOf]; omega
                · obtain ⟨j, rfl⟩ : ∃ j, q = j + 1 := ⟨q - 1, by omega⟩
                  have hne : ((j : Int) + 1 == (p : Int)) = false := by
                    simp only [beq_eq_false_iff_ne, ne_eq]
                    omega
                  have hqs : p < j + 1 := by omega
                  have hqi : (p : Int) < (j : Int) + 1 := by omega
                  have hlj : (j : Int) + 1 < (S.size : Int) := by omega
                  have hl0 : (0 : Int) ≤ (j : Int) + 1 := by omega
                  have hjn : ((j : Int) + 1).toNat = j + 1 := by omega
                  clear hlt'
                  by_cases hjz : j < z
                  · have hji : (j : Int) < (z : Int) := by omega
                    go_wp2
                    · exfalso
                      have hx : (((S[j + 1]'hlt).toNat : Int) != 48) = true := by assumption
                      rw [SP.out.zero (j + 1) j hlt (Or.inr ⟨hqs, rfl⟩) hjz] at hx
                      simp at hx
                    · go_roundw
                      case rel => exact ⟨j + 1 + 1, by omega, by go_num, BG⟩
                      case measure => simp [intOf]; omega
                  · obtain ⟨m, hm⟩ : ∃ m, j = z + m := ⟨j - z, by omega⟩
                    have hji : ¬ (j : Int) < (z : Int) := by omega
                    have hjm : (j : Int) - (z : Int) = (m : Int) := by omega
                    have hmd : (m : Int) < (ds.size : Int) := by omega
                    have hmn : m < ds.size := by omega
                    have HM : Hid (j = z + m) := hm
                    clear hm
                    go_wp2
                    go_quiet (fail)
                    go_wp2
                    · exfalso
                      have hx : (((S[j + 1]'hlt).toNat : Int) != ((ds[m]'hmn).toNat : Int)) = true := by assumption
                      rw [SP.out.digit (j + 1) j m hlt hmn (Or.inr ⟨hqs, rfl⟩) HM.out] at hx
                      simp at hx
                    · go_roundw
                      case rel => first | exact ⟨j + 1 + 1, by omega, by go_num, below_drewN BG.out _⟩ | ((repeat apply Exists.intro); exact ⟨⟨j + 1 + 1, by omega, by go_num, below_drewN BG.out _⟩, rfl⟩)
                      case measure => simp [intOf]; omega
              · go_wp2
                go_ret
                exact ⟨rfl, BG.out⟩
end Go.Proofs.Ybulkdftg
