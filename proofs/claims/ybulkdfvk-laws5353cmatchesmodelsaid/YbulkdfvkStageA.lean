/-
  LawS5353CMatchesModel, whole: its head, the loop that lays the deaths down, and what follows.
-/
import Derived.Test.YbulkdfvkStageB
namespace Go.Proofs.Ybulkdfvk
open Go.RowKit Go.Maps

/-- The deaths' row while it is being filled: the first k are laid down. -/
def HalfD (w : World) (N n k : Nat) (q : Nat → Int) : Prop :=
  ∃ xs, w.ownsRow N 39 5 (.slice (some ⟨N, 0, none⟩) n n) n xs ∧ ∀ i j, i < k → j < 5 → xs[i * 5 + j]? = (D5 q i)[j]?
theorem HalfD.alloc {w : World} {N n k : Nat} {q : Nat → Int} (h : HalfD w N n k q) (o : Obj) : HalfD (w.alloc o) N n k q := by
  obtain ⟨xs, h1, h2⟩ := h
  exact ⟨xs, h1.alloc o, h2⟩
theorem HalfD.drew {w : World} {N n k : Nat} {q : Nat → Int} (h : HalfD w N n k q) : HalfD w.drew N n k q := by
  obtain ⟨xs, h1, h2⟩ := h
  exact ⟨xs, h1.drew, h2⟩
theorem HalfD.cell {w : World} {N n k : Nat} {q : Nat → Int} (h : HalfD w N n k q) {j : Nat} (hj : j < n * 5) : ∃ o, w.cell? ⟨N, j, none⟩ = some o := by
  obtain ⟨xs, h1, h2⟩ := h
  have hl : j < xs.length := by rw [h1.1]; exact hj
  exact ⟨xs[j], by rw [h1.cellAt j hj, List.getElem?_eq_getElem hl]⟩
theorem HalfD.frozen {w : World} {N n k : Nat} {q : Nat → Int} (h : HalfD w N n k q) (j : Nat) : w.frozen? ⟨N, j, none⟩ = false := by
  obtain ⟨xs, h1, h2⟩ := h
  exact h1.frozenAt j
theorem HalfD.deaths {w : World} {N n : Nat} {q : Nat → Int} (h : HalfD w N n n q) : DeathsAt w N n q := by
  obtain ⟨xs, h1, h2⟩ := h
  refine ⟨(h1.lt N rfl).2, fun i hi => ⟨?_, ?_, ?_, ?_, ?_⟩⟩
  · rw [h1.cellAt (i * 5) (by omega)]; exact h2 i 0 hi (by omega)
  · rw [h1.cellAt (i * 5 + 1) (by omega)]; exact h2 i 1 hi (by omega)
  · rw [h1.cellAt (i * 5 + 2) (by omega)]; exact h2 i 2 hi (by omega)
  · rw [h1.cellAt (i * 5 + 3) (by omega)]; exact h2 i 3 hi (by omega)
  · rw [h1.cellAt (i * 5 + 4) (by omega)]; exact h2 i 4 hi (by omega)
theorem HalfD.deathsLt {w : World} {N n k : Nat} {q : Nat → Int} (h : HalfD w N n k q) : N < w.heap.size := by
  obtain ⟨xs, h1, h2⟩ := h
  exact (h1.lt N rfl).2
/-- One death more. -/
def put5 (w : World) (N o : Nat) (v0 v1 v2 v3 v4 : Value) : World :=
  ((((w.setCell ⟨N, o, none⟩ v0).setCell ⟨N, o + 1, none⟩ v1).setCell ⟨N, o + 2, none⟩ v2).setCell ⟨N, o + 3, none⟩ v3).setCell ⟨N, o + 4, none⟩ v4
theorem HalfD.step {w : World} {N n k : Nat} {q : Nat → Int} (h : HalfD w N n k q) (hk : k < n) : HalfD (put5 w N (k * 5) (.int .u64 (q k)) (.string rS) (.int .u64 k) (.int .i64 0) (.pointer none)) N n (k + 1) q := by
  obtain ⟨xs, h1, h2⟩ := h
  have hl : xs.length = n * 5 := h1.1
  refine ⟨_, ((((((h1.stored _ _).1).stored _ _).1.stored _ _).1.stored _ _).1.stored _ _).1, fun i j hi hj => ?_⟩
  simp only [List.getElem?_set, List.length_set]
  by_cases hik : i < k
  · rw [if_neg (by omega), if_neg (by omega), if_neg (by omega), if_neg (by omega), if_neg (by omega)]
    exact h2 i j hik hj
  · obtain rfl : i = k := by omega
    have hj' : j = 0 ∨ j = 1 ∨ j = 2 ∨ j = 3 ∨ j = 4 := by omega
    rcases hj' with rfl | rfl | rfl | rfl | rfl
    · rw [if_neg (by omega), if_neg (by omega), if_neg (by omega), if_neg (by omega), if_pos (by omega), if_pos (by omega)]; rfl
    · rw [if_neg (by omega), if_neg (by omega), if_neg (by omega), if_pos (by omega), if_pos (by omega)]; rfl
    · rw [if_neg (by omega), if_neg (by omega), if_pos (by omega), if_pos (by omega)]; rfl
    · rw [if_neg (by omega), if_pos (by omega), if_pos (by omega)]; rfl
    · rw [if_pos (by omega), if_pos (by omega)]; rfl
theorem below_put5 {B : Nat} {w0 w : World} (h : Below B w0 w) {N : Nat} (hN : B ≤ N) (o : Nat) (v0 v1 v2 v3 v4 : Value) : Below B w0 (put5 w N o v0 v1 v2 v3 v4) :=
  ((((h.setCell hN _).setCell hN _).setCell hN _).setCell hN _).setCell hN _

set_option maxHeartbeats 4000000 in
set_option maxRecDepth 100000 in
theorem matches_any (a0 a1 a2 a3 : Option Addr) (n c n1 d1 n2 d2 n3 d3 : Nat) (q q1 q2 : Nat → Int) (w : World) (hq : ∀ i, 0 ≤ q i ∧ q i < 8) (hS : SeqsAt w a0 n q) (hMk : SeqsAt w a1 n1 q1) (hX : SeqsAt w a2 n2 q2) (hV : ValsAt w a3 n3) (hn : n ≤ 1024) (hn1 : n1 ≤ 1024) (hn2 : n2 ≤ 1024) (hn3 : n3 ≤ 1024) :
    Calls Yba.prog 4 #[.slice a0 n c, .slice a1 n1 d1, .slice a2 n2 d2, .slice a3 n3 d3] w fun e w' => e = .returned (.bool true) ∧ Below w.heap.size w w' := by
  have hn' : (n : Int) ≤ 1024 := by omega
  have hm0 : ¬ (1024 : Int) < (n : Int) := by omega
  have hm1 : ¬ (1024 : Int) < (n1 : Int) := by omega
  have hm2 : ¬ (1024 : Int) < (n2 : Int) := by omega
  have hm3 : ¬ (1024 : Int) < (n3 : Int) := by omega
  obtain ⟨i39, hi39, hz39, hs39, hb39⟩ := info_parts info39
  have HS : Hid (SeqsAt w a0 n q) := hS
  have HMk : Hid (SeqsAt w a1 n1 q1) := hMk
  have HX : Hid (SeqsAt w a2 n2 q2) := hX
  have HV : Hid (ValsAt w a3 n3) := hV
  have HQ : Hid (∀ i, 0 ≤ q i ∧ q i < 8) := hq
  clear hS hMk hX hV hq
  go_enter Yba.func4, Yba.ntmps4
  go_wp2_with (at_make; refine wpList_make_full _ rfl _ _ 31 rfl w.heap.size 39 i39 _ 5 Yba.underlying31 hi39 hz39 hs39 _ _ _ _ n rfl rfl rfl rfl (by rw [hb39]; omega) (by unfold maxLen; omega) (Nat.le_refl _) ?_; intro w1 own1 grow1)
  have H0 : Hid (HalfD w1 w.heap.size n 0 q ∧ Below w.heap.size w w1) := ⟨⟨_, own1, fun i j hi => by omega⟩, Below.grown (Below.refl _ _) grow1 (Nat.le_refl _) (fun k hk => by cases hk)⟩
  clear own1 grow1 hi39 hz39 hs39 hb39 hm0 hm1 hm2 hm3
  go_loopw [11] (fun i wr => ∃ k : Nat, k ≤ n ∧ i = .int .i64 k ∧ Hid (HalfD wr w.heap.size n k q ∧ Below w.heap.size w wr)) (fun i _ => n - (intOf i).toNat)
  case atStart => exact ⟨0, Nat.zero_le _, rfl, H0⟩
  case round =>
    clear H0
    obtain ⟨k, hk, rfl, HK⟩ := hrel
    by_cases hlt : k < n
    · have hlt' : (k : Int) < (n : Int) := by omega
      obtain ⟨b, off, rfl, hb, hc⟩ := HS.out (by omega)
      obtain ⟨z, hcz, hz0, hz1, hqz⟩ := hc k hlt
      obtain ⟨hf, bel⟩ := HK.out
      have hcz' : wr.cell? ⟨b, off + k, none⟩ = some (.int .u8 z) := (bel.cell hb).trans hcz
      obtain ⟨o0, e0⟩ := hf.cell (j := k * 5) (by omega)
      obtain ⟨o1, e1⟩ := hf.cell (j := k * 5 + 1) (by omega)
      obtain ⟨o2, e2⟩ := hf.cell (j := k * 5 + 2) (by omega)
      obtain ⟨o3, e3⟩ := hf.cell (j := k * 5 + 3) (by omega)
      obtain ⟨o4, e4⟩ := hf.cell (j := k * 5 + 4) (by omega)
      have f0 := hf.frozen (k * 5)
      have f1 := hf.frozen (k * 5 + 1)
      have f2 := hf.frozen (k * 5 + 2)
      have f3 := hf.frozen (k * 5 + 3)
      have f4 := hf.frozen (k * 5 + 4)
      have lN : w.heap.size < wr.heap.size := hf.deathsLt
      have lb : b < wr.heap.size := by omega
      have hne : b ≠ w.heap.size := by omega
      obtain ⟨y, hy⟩ : ∃ y, y = q k := ⟨_, rfl⟩
      have HY : Hid (y = q k) := hy
      rw [← hy] at hqz
      have hy1 : z.tmod 8 = y := by rw [hqz, Int.tmod_eq_emod_of_nonneg hz0]
      have hy2 : IntKind.u64.wrap y = y := by rw [IntKind.wrap_u64]; omega
      clear hc hcz hqz hy hf bel
      have hk1024 : k ≤ 1024 := by omega
      go_upto_region 8 with fail
      go_region_held3 (fun w' => w'.cell? ⟨b, off + k, none⟩ = some (.int .u8 z))
        (simp [go_sem, *])
        ((go_at_call 6; refine (time_add k _ hk1024).mono ?_; rintro e w' ⟨rfl, x1, x2, rfl⟩))
      have R : Hid (HalfD ((((put5 wr w.heap.size (k * 5) (.int .u64 y) (.string rS) (.int .u64 k) (.int .i64 0) (.pointer none)).alloc (.cells x1 36)).alloc (.cells x2 36)).drew) w.heap.size n (k + 1) q ∧ Below w.heap.size w ((((put5 wr w.heap.size (k * 5) (.int .u64 y) (.string rS) (.int .u64 k) (.int .i64 0) (.pointer none)).alloc (.cells x1 36)).alloc (.cells x2 36)).drew)) := by
        have bp := below_put5 HK.out.2 (Nat.le_refl _) (k * 5) (.int .u64 y) (.string rS) (.int .u64 k) (.int .i64 0) (.pointer none)
        refine ⟨?_, ((bp.alloc bp.size _).alloc (by have := bp.size; simp; omega) _).drew⟩
        rw [HY.out]
        exact (((HK.out.1.step hlt).alloc _).alloc _).drew
      clear e0 e1 e2 e3 e4 f0 f1 f2 f3 f4
      go_wp2
      go_roundw
      case rel => first | exact ⟨k + 1, by omega, by go_num, R⟩ | ((repeat apply Exists.intro); exact ⟨⟨k + 1, by omega, by go_num, R⟩, rfl⟩)
      case measure => simp [intOf]; omega
    · have hge : ¬ (k : Int) < (n : Int) := by omega
      obtain rfl : k = n := by omega
      have bel := HK.out.2
      go_upto_if 54 with fail
      iterate 6 go_step
      exact stageB (w := wr) q q1 q2 hn hn1 hn2 hn3 HQ.out bel.size bel (HS.out.below bel) (HMk.out.below bel) (HX.out.below bel) (HV.out.below bel) HK.out.1.deaths
end Go.Proofs.Ybulkdfvk
