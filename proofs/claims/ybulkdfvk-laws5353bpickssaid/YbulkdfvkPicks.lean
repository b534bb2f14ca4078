/-
  The walk of LawS5353BPicks.
-/
import Derived.Test.YbulkdfvkRows
import Derived.WalkKit
import Derived.WalkSpells
import Derived.ProofKit
import Derived.Laws.OwnMore
import Derived.Deep.QuietTactic
import Derived.BigQuiet
import Derived.Outline
import Derived.WalkSmall
namespace Go.Proofs.Ybulkdfvk
open Go.RowKit

/-- Too long a slice: true at once. -/
theorem picks_long (a0 : Int) (a1 : Option Addr) (len cap : Nat) (a2 : Int) (w : World) (h : 1024 < len) :
    Calls Yba.prog 3 #[.int .i64 a0, .slice a1 len cap, .int .i64 a2] w fun e w' => e = .returned (.bool true) ∧ Below w.heap.size w w' := by
  have h' : (1024 : Int) < (len : Int) := by omega
  go_enter Yba.func3, Yba.ntmps3
  go_wp2
  go_ret
  exact ⟨rfl, Below.refl _ _⟩
/-- A count below 1 beside a backoff: true at once. -/
theorem picks_low (a0 : Int) (a1 : Option Addr) (len cap : Nat) (a2 : Int) (w : World) (h : len ≤ 1024) (h0 : 0 < len) (h2 : a2 < 1) :
    Calls Yba.prog 3 #[.int .i64 a0, .slice a1 len cap, .int .i64 a2] w fun e w' => e = .returned (.bool true) ∧ Below w.heap.size w w' := by
  have h' : (len : Int) ≤ 1024 := by omega
  have h0' : (0 : Int) < (len : Int) := by omega
  go_enter Yba.func3, Yba.ntmps3
  go_wp2
  go_ret
  exact ⟨rfl, Below.refl _ _⟩

/-- 'backoff' where there is none. -/
theorem backoff_none (a0 : Int) (s : Option Addr) (cap : Nat) (d : Int) (w : World) :
    Calls Yba.prog 5 #[.agg #[.int .i64 a0, .slice s 0 cap], .int .i64 d] w fun e w' => e = .returned (.int .i64 0) ∧ w' = w.alloc (.cells #[.int .i64 a0, .slice s 0 cap] 26) := by
  go_enter Yba.func5, Yba.ntmps5
  go_wp2
  go_ret
  exact ⟨rfl, rfl⟩
/-- 'backoff' picks: the count is within the slice. -/
theorem backoff_in (a0 x : Int) (b len cap m : Nat) (d : Int) (w : World) (hd : d = (m : Int) + 1) (hm : m < len) (hl : len ≤ 1024) (hc : ∀ o, (w.alloc o).cell? ⟨b, m, none⟩ = some (.int .i64 x)) :
    Calls Yba.prog 5 #[.agg #[.int .i64 a0, .slice (some ⟨b, 0, none⟩) len cap], .int .i64 d] w fun e w' => e = .returned (.int .i64 x) ∧ w' = w.alloc (.cells #[.int .i64 a0, .slice (some ⟨b, 0, none⟩) len cap] 26) := by
  have hl' : (len : Int) ≤ 1024 := by omega
  have h0' : ((len : Int) == 0) = false := by simp only [beq_eq_false_iff_ne, ne_eq]; omega
  have hm' : (m : Int) < (len : Int) := by omega
  subst hd
  go_enter Yba.func5, Yba.ntmps5
  go_wp2
  go_ret
  exact ⟨rfl, rfl⟩
/-- 'backoff' picks: the count is beyond the slice: the last. -/
theorem backoff_past (a0 x : Int) (b len cap m : Nat) (d : Int) (w : World) (hd : (len : Int) < d) (hm : m + 1 = len) (hl : len ≤ 1024) (hc : ∀ o, (w.alloc o).cell? ⟨b, m, none⟩ = some (.int .i64 x)) :
    Calls Yba.prog 5 #[.agg #[.int .i64 a0, .slice (some ⟨b, 0, none⟩) len cap], .int .i64 d] w fun e w' => e = .returned (.int .i64 x) ∧ w' = w.alloc (.cells #[.int .i64 a0, .slice (some ⟨b, 0, none⟩) len cap] 26) := by
  have hl' : (len : Int) ≤ 1024 := by omega
  have h0' : ((len : Int) == 0) = false := by simp only [beq_eq_false_iff_ne, ne_eq]; omega
  have hm' : (m : Int) + 1 = (len : Int) := by omega
  have hn' : ¬ d ≤ (len : Int) := by omega
  have hml : (m : Int) < (len : Int) := by omega
  have e1 : (len : Int) - 1 = (m : Int) := by omega
  clear hm'
  go_enter Yba.func5, Yba.ntmps5
  go_wp2
  go_ret
  exact ⟨rfl, rfl⟩

theorem info24 : (Yba.prog.info? 24).map (fun i => (i.zero, i.size, i.bytes)) = some (some (.int .i64 0), 1, 8) := by kernel_rfl

/-- The copy's row: the first k numbers, zeros behind them. -/
def Part (w : World) (N len k : Nat) (zs : List Int) : Prop :=
  w.ownsRow N 24 1 (.slice (some ⟨N, 0, none⟩) len len) len ((zs.take k).map (Value.int .i64) ++ List.replicate (len - k) (.int .i64 0))
theorem Part.step {w : World} {N len k : Nat} {zs : List Int} (h : Part w N len k zs) (hk : k < len) (hz : len ≤ zs.length) :
    Part (w.setCell ⟨N, k, none⟩ (.int .i64 (zs.getD k 0))) N len (k + 1) zs := by
  have h1 := (World.ownsRow.stored h k (.int .i64 (zs.getD k 0))).1
  have e : ((zs.take k).map (Value.int .i64) ++ List.replicate (len - k) (Value.int .i64 0)).set k (.int .i64 (zs.getD k 0)) = (zs.take (k + 1)).map (Value.int .i64) ++ List.replicate (len - (k + 1)) (.int .i64 0) := by
    have hd : ((zs.take k).map (Value.int .i64)).length = k := by simp; omega
    obtain ⟨m, hm⟩ : ∃ m, len - k = m + 1 := ⟨len - k - 1, by omega⟩
    have hm' : len - (k + 1) = m := by omega
    have hkz : k < zs.length := by omega
    rw [List.set_append_right _ _ (by omega), hd, Nat.sub_self, hm, hm', List.replicate_succ, List.take_succ_eq_append_getElem hkz, List.map_append]
    simp only [List.set_cons_zero, List.map_cons, List.map_nil, List.append_assoc, List.cons_append, List.nil_append]
    rw [List.getD_eq_getElem?_getD, List.getElem?_eq_getElem hkz, Option.getD_some]
  rw [e] at h1
  exact h1
theorem Part.start {w : World} {N len : Nat} {zs : List Int} (h : w.ownsRow N 24 1 (.slice (some ⟨N, 0, none⟩) len len) len (madeCells (Value.int .i64 0).cells (len * 1)).toList) : Part w N len 0 zs := by
  have e : (madeCells (Value.int .i64 0).cells (len * 1)).toList = (zs.take 0).map (Value.int .i64) ++ List.replicate (len - 0) (.int .i64 0) := by
    rw [Nat.mul_one]
    exact toList_madeCells_one (.int .i64 0) len
  rw [e] at h
  exact h
theorem Part.cell {w : World} {N len : Nat} {zs : List Int} (h : Part w N len len zs) (hz : len ≤ zs.length) (j : Nat) (hj : j < len) : w.cell? ⟨N, j, none⟩ = some (.int .i64 (zs.getD j 0)) := by
  have hjz : j < zs.length := by omega
  rw [World.ownsRow.cellAt h j (by omega), List.getElem?_append_left (by simp; omega)]
  simp [hj, hjz]

set_option maxHeartbeats 1000000 in
set_option maxRecDepth 100000 in
/-- The nil slice. -/
theorem picks_nil (a0 : Int) (a2 : Int) (w : World) :
    Calls Yba.prog 3 #[.int .i64 a0, .slice none 0 0, .int .i64 a2] w fun e w' => e = .returned (.bool true) ∧ Below w.heap.size w w' := by
  have hn := fun (W : World) => run_neq_slice_nil_any (P := Yba.prog) W 22 2 none 0 0 0 0 Yba.underlying22
  go_enter Yba.func3, Yba.ntmps3
  go_wp2_with (go_at_call 5; refine (backoff_none _ _ _ _ _).mono ?_; rintro e w' ⟨rfl, rfl⟩)
  refine wp_loop_rounds 1 ?_
  rw [rounds_succ]
  go_wp2
  refine wp_loop_rounds 1 ?_
  rw [rounds_succ]
  go_wp2
  go_ret
  exact ⟨rfl, ((Below.refl _ _).alloc (Nat.le_refl _) _).alloc (by simp) _⟩

set_option maxHeartbeats 1000000 in
set_option maxRecDepth 100000 in
/-- An empty slice that is not nil. -/
theorem picks_empty (a0 : Int) (x : Addr) (cap : Nat) (a2 : Int) (w : World) :
    Calls Yba.prog 3 #[.int .i64 a0, .slice (some x) 0 cap, .int .i64 a2] w fun e w' => e = .returned (.bool true) ∧ Below w.heap.size w w' := by
  obtain ⟨i5, hi5, hz5, hs5, hb5⟩ := info_parts info24
  have hn := fun (W : World) => run_neq_slice_nil_any (P := Yba.prog) W 22 2 (some x) 0 cap 0 0 Yba.underlying22
  go_enter Yba.func3, Yba.ntmps3
  go_wp2_with (at_make; refine wpList_make_full _ rfl _ _ 23 rfl w.heap.size 24 i5 (.int .i64 0) 1 Yba.underlying23 hi5 hz5 hs5 _ _ _ _ 0 rfl rfl rfl rfl (by omega) (by unfold maxLen; omega) (Nat.le_refl _) ?_; intro w1 own1 grow1)
  have BL : Hid (Below w.heap.size w w1) := Below.grown (Below.refl _ _) grow1 (Nat.le_refl _) (fun k hk => by cases hk)
  clear own1 grow1 hi5 hz5 hs5 hb5 hn
  refine wp_loop_rounds 1 ?_
  rw [rounds_succ]
  go_wp2_with (go_at_call 5; refine (backoff_none _ _ _ _ _).mono ?_; rintro e w' ⟨rfl, rfl⟩)
  refine wp_loop_rounds 1 ?_
  rw [rounds_succ]
  go_wp2
  refine wp_loop_rounds 1 ?_
  rw [rounds_succ]
  go_wp2
  go_ret
  exact ⟨rfl, (BL.out.alloc BL.out.size _).alloc (by have := BL.out.size; simp; omega) _⟩

set_option maxHeartbeats 2000000 in
set_option maxRecDepth 100000 in
theorem picks_row (a0 : Int) (b off len cap : Nat) (zs : List Int) (a2 : Int) (w : World) (hl : len ≤ 1024) (hpos : 0 < len) (hz : len ≤ zs.length) (h2 : 1 ≤ a2) (hb : b < w.heap.size) (hrow : ∀ j, j < len → w.cell? ⟨b, off + j, none⟩ = some (.int .i64 (zs.getD j 0))) :
    Calls Yba.prog 3 #[.int .i64 a0, .slice (some ⟨b, off, none⟩) len cap, .int .i64 a2] w fun e w' => e = .returned (.bool true) ∧ Below w.heap.size w w' := by
  have hl' : (len : Int) ≤ 1024 := by omega
  have hpos' : (0 : Int) < (len : Int) := by omega
  have h2' : ¬ a2 < 1 := by omega
  obtain ⟨i5, hi5, hz5, hs5, hb5⟩ := info_parts info24
  have hn := fun (W : World) => run_neq_slice_nil_any (P := Yba.prog) W 22 2 (some ⟨b, off, none⟩) len cap 0 0 Yba.underlying22
  have HR : Hid (∀ j, j < len → w.cell? ⟨b, off + j, none⟩ = some (.int .i64 (zs.getD j 0))) := hrow
  clear hrow
  go_enter Yba.func3, Yba.ntmps3
  go_wp2_with (at_make; refine wpList_make_full _ rfl _ _ 23 rfl w.heap.size 24 i5 (.int .i64 0) 1 Yba.underlying23 hi5 hz5 hs5 _ _ _ _ len rfl rfl rfl rfl (by rw [hb5]; omega) (by unfold maxLen; omega) (Nat.le_refl _) ?_; intro w1 own1 grow1)
  have H0 : Hid (Part w1 w.heap.size len 0 zs ∧ Below w.heap.size w w1 ∧ w.heap.size < w1.heap.size) := ⟨Part.start own1, Below.grown (Below.refl _ _) grow1 (Nat.le_refl _) (fun k hk => by cases hk), (own1.lt w.heap.size rfl).2⟩
  clear own1 grow1 hi5 hz5 hs5 hb5 hn
  go_loopw [8] (fun i wr => ∃ k : Nat, k ≤ len ∧ i = .int .i64 k ∧ Hid (Part wr w.heap.size len k zs ∧ Below w.heap.size w wr ∧ w.heap.size < wr.heap.size)) (fun i _ => len - (intOf i).toNat)
  case atStart => exact ⟨0, Nat.zero_le _, rfl, H0⟩
  case round =>
    obtain ⟨k, hk, rfl, HD⟩ := hrel
    by_cases hlt : k < len
    · obtain ⟨hf, bel, hsz⟩ := HD.out
      have hcr : wr.cell? ⟨b, off + k, none⟩ = some (.int .i64 (zs.getD k 0)) := (bel.cell hb).trans (HR.out k hlt)
      have HS := hf.step hlt hz
      obtain ⟨z, hzk⟩ : ∃ z, z = zs.getD k 0 := ⟨_, rfl⟩
      rw [← hzk] at hcr HS
      have hold : wr.cell? ⟨w.heap.size, k, none⟩ = some (.int .i64 0) := by
        rw [World.ownsRow.cellAt hf k (by omega), List.getElem?_append_right (by simp; omega), List.getElem?_replicate, if_pos (by simp; omega)]
      have hfr : wr.frozen? ⟨w.heap.size, k, none⟩ = false := World.ownsRow.frozenAt hf k
      have HS' : Hid (Part (wr.setCell ⟨w.heap.size, k, none⟩ (.int .i64 z)) w.heap.size len (k + 1) zs) := HS
      clear hzk hf bel HS
      have hlt' : (k : Int) < (len : Int) := by omega
      go_wp2
      go_roundw
      case rel => exact ⟨k + 1, by omega, by go_num, HS'.out, HD.out.2.1.setCell (Nat.le_refl _) _, by simpa using HD.out.2.2⟩
      case measure => simp [intOf]; omega
    · obtain rfl : k = len := by omega
      obtain ⟨hf, bel, hsz⟩ := HD.out
      have HC : Hid (∀ j, j < k → wr.cell? ⟨w.heap.size, j, none⟩ = some (.int .i64 (zs.getD j 0))) := fun j hj => hf.cell hz j hj
      have HA : Hid (∀ j, j < k → wr.cell? ⟨b, off + j, none⟩ = some (.int .i64 (zs.getD j 0))) := fun j hj => (bel.cell hb).trans (HR.out j hj)
      have BL : Hid (Below w.heap.size w wr) := bel
      have hbr : b < wr.heap.size := by omega
      clear hf bel HD H0 HR
      obtain ⟨m, hm⟩ : ∃ m, m = (if a2 ≤ (k : Int) then a2.toNat - 1 else k - 1) := ⟨_, rfl⟩
      have hmk : m < k := by rw [hm]; split <;> omega
      obtain ⟨g, hg⟩ : ∃ g, g = zs.getD m 0 := ⟨_, rfl⟩
      have hcm : ∀ o1 o2, ((wr.alloc o1).alloc o2).cell? ⟨w.heap.size, m, none⟩ = some (.int .i64 g) := fun o1 o2 => by
        rw [World.cell?_alloc_past _ _ _ (by simp; omega), World.cell?_alloc_past _ _ _ hsz, hg]; exact HC.out m hmk
      have c5 : ∀ W : World, (∀ o, (W.alloc o).cell? ⟨w.heap.size, m, none⟩ = some (.int .i64 g)) → Calls Yba.prog 5 #[.agg #[.int .i64 a0, .slice (some ⟨w.heap.size, 0, none⟩) k k], .int .i64 a2] W fun e w' => e = .returned (.int .i64 g) ∧ w' = W.alloc (.cells #[.int .i64 a0, .slice (some ⟨w.heap.size, 0, none⟩) k k] 26) := fun W hW => by
        by_cases hd : a2 ≤ (k : Int)
        · exact backoff_in a0 _ w.heap.size k k m a2 W (by rw [hm, if_pos hd]; omega) hmk hl hW
        · exact backoff_past a0 _ w.heap.size k k m a2 W (by omega) (by rw [hm, if_neg hd]; omega) hl hW
      have c5' := c5 (wr.alloc (.cells #[.int .i64 a0, .slice (some ⟨w.heap.size, 0, none⟩) k k] 26)) (hcm _)
      have HM : Hid (m = if a2 ≤ (k : Int) then a2.toNat - 1 else k - 1) := hm
      have HG : Hid (g = zs.getD m 0) := hg
      clear c5 hcm hm hg
      go_wp2_with (go_at_call 5; refine c5'.mono ?_; rintro e w' ⟨rfl, rfl⟩)
      clear c5'
      go_loop [11, 12] (fun v i => ∃ q : Nat, ∃ y : Int, q ≤ k ∧ (q : Int) ≤ a2 ∧ i = .int .i64 q ∧ v = .int .i64 y ∧ Hid (y = if q = 0 then 0 else zs.getD (q - 1) 0)) (fun _ i => k - (intOf i).toNat)
      case atStart => exact ⟨0, 0, Nat.zero_le _, by omega, rfl, rfl, rfl⟩
      case round =>
        obtain ⟨q, y, hq, hqa, rfl, rfl, HY⟩ := hrel
        by_cases hc : q < k ∧ (q : Int) < a2
        · obtain ⟨hqk, hqa2⟩ := hc
          have hqk' : (q : Int) < (k : Int) := by omega
          have hcq := HA.out q hqk
          obtain ⟨z, hzq⟩ : ∃ z, z = zs.getD q 0 := ⟨_, rfl⟩
          rw [← hzq] at hcq
          have HZ : Hid (z = zs.getD q 0) := hzq
          clear hzq
          go_wp2
          go_round
          case rel => exact ⟨q + 1, z, by omega, by omega, by go_num, rfl, by unfold Hid; rw [if_neg (by omega), Nat.add_sub_cancel]; exact HZ.out⟩
          case measure => simp [intOf]; omega
        · have hqm : q = m + 1 := by rw [HM.out]; split <;> omega
          have hyg : y = g := by rw [HY.out, if_neg (by omega), hqm, Nat.add_sub_cancel]; exact HG.out.symm
          subst hyg
          clear HY HG HM
          have hfalse : (decide ((q : Int) < (k : Int)) && decide ((q : Int) < a2)) = false := by
            by_cases h : q < k
            · have h1 : decide ((q : Int) < a2) = false := decide_eq_false (by omega)
              rw [h1, Bool.and_false]
            · have h1 : decide ((q : Int) < (k : Int)) = false := decide_eq_false (by omega)
              rw [h1, Bool.false_and]
          by_cases hqk : q < k
          · have hqk' : (q : Int) < (k : Int) := by omega
            have hqa2 : ¬ (q : Int) < a2 := by omega
            clear hc hqm hfalse
            go_wp2
            go_loopw [13] (fun i wx => ∃ r : Nat, r ≤ k ∧ i = .int .i64 r ∧ ∃ nn : Nat, wx = ((wr.alloc (.cells #[.int .i64 a0, .slice (some ⟨w.heap.size, 0, none⟩) k k] 26)).alloc (.cells #[.int .i64 a0, .slice (some ⟨w.heap.size, 0, none⟩) k k] 26)).drewN nn) (fun i _ => k - (intOf i).toNat)
            case atStart => exact ⟨0, Nat.zero_le _, rfl, 0, rfl⟩
            case round =>
              obtain ⟨r, hr, rfl, nn, rfl⟩ := hrel
              by_cases hrk : r < k
              · have hrk' : (r : Int) < (k : Int) := by omega
                have hcr := HA.out r hrk
                have hcc := HC.out r hrk
                obtain ⟨z, hzr⟩ : ∃ z, z = zs.getD r 0 := ⟨_, rfl⟩
                rw [← hzr] at hcr hcc
                clear hzr
                go_wp2
                go_quiet (fail)
                go_wp2
                go_roundw
                case rel => exact ⟨r + 1, by omega, by go_num, nn + nq, rfl⟩
                case measure => simp [intOf]; omega
              · go_wp2
                go_ret
                exact ⟨rfl, below_drewN (((BL.out.alloc (Nat.le_of_lt hsz) _).alloc (by simp; omega) _)) _⟩
          · have hqk' : ¬ (q : Int) < (k : Int) := by omega
            clear hc hqm hfalse
            go_wp2
            go_loopw [13] (fun i wx => ∃ r : Nat, r ≤ k ∧ i = .int .i64 r ∧ ∃ nn : Nat, wx = ((wr.alloc (.cells #[.int .i64 a0, .slice (some ⟨w.heap.size, 0, none⟩) k k] 26)).alloc (.cells #[.int .i64 a0, .slice (some ⟨w.heap.size, 0, none⟩) k k] 26)).drewN nn) (fun i _ => k - (intOf i).toNat)
            case atStart => exact ⟨0, Nat.zero_le _, rfl, 0, rfl⟩
            case round =>
              obtain ⟨r, hr, rfl, nn, rfl⟩ := hrel
              by_cases hrk : r < k
              · have hrk' : (r : Int) < (k : Int) := by omega
                have hcr := HA.out r hrk
                have hcc := HC.out r hrk
                obtain ⟨z, hzr⟩ : ∃ z, z = zs.getD r 0 := ⟨_, rfl⟩
                rw [← hzr] at hcr hcc
                clear hzr
                go_wp2
                go_quiet (fail)
                go_wp2
                go_roundw
                case rel => exact ⟨r + 1, by omega, by go_num, nn + nq, rfl⟩
                case measure => simp [intOf]; omega
              · go_wp2
                go_ret
                exact ⟨rfl, below_drewN (((BL.out.alloc (Nat.le_of_lt hsz) _).alloc (by simp; omega) _)) _⟩
end Go.Proofs.Ybulkdfvk
