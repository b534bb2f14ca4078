/-
  LawS5353CMatchesModel, from the loop that sets what each task's mark asks on.
-/
import Derived.Test.YbulkdfvkStageD
namespace Go.Proofs.Ybulkdfvk
open Go.RowKit Go.Maps

theorem info43 : (Yba.prog.info? 43).map (fun i => (i.zero, i.size, i.bytes)) = some (some (.agg #[.int .u64 0, .int .i64 0]), 2, 16) := by kernel_rfl
/-- One store's two cells. -/
def P2 (p : Int × Int) : List Value := [.int .u64 p.1, .int .i64 p.2]
def SetRow (w : World) (B : Nat) (v : Value) (S : List (Int × Int)) : Prop := w.ownsRow B 43 2 v S.length (S.flatMap P2)
theorem P2_at : ∀ (l : List (Int × Int)) (t j : Nat) (p : Int × Int), l[t]? = some p → j < 2 → (l.flatMap P2)[t * 2 + j]? = (P2 p)[j]?
  | [], t, j, p, h, _ => by simp at h
  | a :: l, 0, j, p, h, hj => by
    simp at h
    subst h
    rw [List.flatMap_cons, List.getElem?_append_left (by simp [P2]; omega)]
    simp
  | a :: l, t + 1, j, p, h, hj => by
    rw [List.flatMap_cons, List.getElem?_append_right (by simp [P2]; omega)]
    have e : (t + 1) * 2 + j - (P2 a).length = t * 2 + j := by simp [P2]; omega
    rw [e]
    exact P2_at l t j p (by simpa using h) hj
theorem SetsAt.of_own {w : World} {B : Nat} {v : Value} {S : List (Int × Int)} (h : SetRow w B v S) : ∃ sa sc, v = .slice sa S.length sc ∧ SetsAt w sa S := by
  unfold SetRow at h
  rcases h.2 with ⟨hv, h0⟩ | ⟨g, cap, cur, hv, _⟩
  · exact ⟨none, 0, by rw [hv, h0], fun hp => by omega⟩
  · subst hv
    refine ⟨some ⟨g, 0, none⟩, cap, rfl, fun _ => ⟨g, rfl, (h.lt g rfl).2, fun t p hp => ?_⟩⟩
    have ht : t < S.length := (List.getElem?_eq_some_iff.1 hp).1
    refine ⟨?_, ?_⟩
    · rw [h.cellAt (t * 2) (by omega)]; exact P2_at S t 0 p hp (by omega)
    · rw [h.cellAt (t * 2 + 1) (by omega)]; exact P2_at S t 1 p hp (by omega)
theorem set_snoc {w' : World} {B : Nat} {S : List (Int × Int)} {v' : Value} {a b : Int} (own1 : w'.ownsRow B 43 2 v' (S.length + 1) (S.flatMap P2 ++ [.int .u64 a, .int .i64 b])) : SetRow w' B v' (S ++ [(a, b)]) := by
  unfold SetRow
  rw [List.length_append, List.flatMap_append]
  exact own1
theorem small_snoc {S : List (Int × Int)} {a b : Int} (h : Small S) (h0 : 0 ≤ a) (h8 : a < 8) (hb : -32768 ≤ b) (hb' : b ≤ 32767) : Small (S ++ [(a, b)]) := fun p hp => by
  rcases List.mem_append.1 hp with h1 | h1
  · exact h p h1
  · rw [List.mem_singleton] at h1
    subst h1
    exact ⟨⟨h0, h8⟩, hb, hb'⟩

set_option maxHeartbeats 4000000 in
set_option maxRecDepth 100000 in
theorem stageC {c2 c3 c4 c5 c6 c7 c8 c11 c13 c14 c15 c16 c17 c18 c19 c20 c21 c22 c23 c24 c25 c26 c27 c28 c29 c30 c31 c32 c33 c34 c35 c36 c37 c38 c39 c40 c41 c42 c43 c44 c45 c46 c47 c48 c49 c50 c51 c52 c53 c54 c55 c56 c57 c58 c59 c60 c61 c62 c63 c64 c65 c66 c67 c68 c69 c70 c71 c72 c73 c74 c75 c76 c77 c78 c79 c80 c81 c82 c83 c84 c85 c86 c87 c88 c89 c90 c91 c92 c93 c94 c95 c96 c97 c98 c99 c100 c101 c102 c103 c104 c105 c106 c107 c108 c109 c110 c111 c112 c113 c114 c115 c116 c117 c118 c119 c120 c121 c122 c123 c124 c125 c126 c127 c128 c129 c130 c131 c132 c133 c134 c135 c136 c137 c138 c139 c140 c141 c142 c143 c144 c145 c146 c147 c148 c149 c150 c151 c152 c153 c154 c155 c156 c157 c158 c159 c160 c161 c162 c163 c164 c165 c166 c167 c168 c169 c170 c171 c172 c173 c174 c175 c176 c177 c178 c179 c180 c181 c182 c183 c184 c185 c186 c187 c188 c189 c190 c191 c192 c193 c194 c195 c196 c197 c198 c199 c200 c201 c202 c203 c204 c205 c206 c207 c208 c209 c210 c211 c212 c213 c214 c215 c216 c217 c218 c219 c220 c221 c222 c223 c224 c225 c226 c227 c228 c229 c230 c231 c232 c233 c234 c235 c236 c237 c238 c239 c240 c241 c242 c243 c244 c245 c246 c247 c248 c249 c250 c251 c252 c253 c254 c255 c256 c257 : Value} {a0 a1 : Option Addr} {n c n1 d1 dB B0 : Nat} {v0 : Value} {S0 : List (Int × Int)} {w0 wM w : World} (q q1 : Nat → Int) (hn : n ≤ 1024) (hn1 : n1 ≤ 1024) (hq : ∀ i, 0 ≤ q i ∧ q i < 8) (hS0 : S0.length ≤ 1024) (hSm : Small S0) (hB : B0 ≤ wM.heap.size) (hbel : Below B0 w0 wM) (hbM : Below wM.heap.size wM w) (hS : SeqsAt wM a0 n q) (hMk : SeqsAt wM a1 n1 q1)
    (hD : DeathsAt wM dB n q) (hR : SetRow w wM.heap.size v0 S0) :
    Code.wp Yba.prog (codeOf Yba.f4 7) (Ends B0 w0) ⟨#[.slice a0 n c, .slice a1 n1 d1, c2, c3, c4, c5, c6, c7, c8, .int .i64 n, .slice (some ⟨dB, 0, none⟩) n n, c11, v0, c13, c14, c15, c16, c17, c18, c19, c20, c21, c22, c23, c24, c25, c26, c27, c28, c29, c30, c31, c32, c33, c34, c35, c36, c37, c38, c39, c40, c41, c42, c43, c44, c45, c46, c47, c48, c49, c50, c51, c52, c53, c54, c55, c56, c57, c58, c59, c60, c61, c62, c63, c64, c65, c66, c67, c68, c69, c70, c71, c72, c73, c74, c75, c76, c77, c78, c79, c80, c81, c82, c83, c84, c85, c86, c87, c88, c89, c90, c91, c92, c93, c94, c95, c96, c97, c98, c99, c100, c101, c102, c103, c104, c105, c106, c107, c108, c109, c110, c111, c112, c113, c114, c115, c116, c117, c118, c119, c120, c121, c122, c123, c124, c125, c126, c127, c128, c129, c130, c131, c132, c133, c134, c135, c136, c137, c138, c139, c140, c141, c142, c143, c144, c145, c146, c147, c148, c149, c150, c151, c152, c153, c154, c155, c156, c157, c158, c159, c160, c161, c162, c163, c164, c165, c166, c167, c168, c169, c170, c171, c172, c173, c174, c175, c176, c177, c178, c179, c180, c181, c182, c183, c184, c185, c186, c187, c188, c189, c190, c191, c192, c193, c194, c195, c196, c197, c198, c199, c200, c201, c202, c203, c204, c205, c206, c207, c208, c209, c210, c211, c212, c213, c214, c215, c216, c217, c218, c219, c220, c221, c222, c223, c224, c225, c226, c227, c228, c229, c230, c231, c232, c233, c234, c235, c236, c237, c238, c239, c240, c241, c242, c243, c244, c245, c246, c247, c248, c249, c250, c251, c252, c253, c254, c255, c256, c257], []⟩ w := by
  have hn' : (n : Int) ≤ 1024 := by omega
  have hn1' : (n1 : Int) ≤ 1024 := by omega
  obtain ⟨i43, hi43, hz43, hs43, hb43⟩ := info_parts info43
  have HS : Hid (SeqsAt wM a0 n q) := hS
  have HMk : Hid (SeqsAt wM a1 n1 q1) := hMk
  have HD : Hid (DeathsAt wM dB n q) := hD
  have HB : Hid (Below B0 w0 wM) := hbel
  have HQ : Hid (∀ i, 0 ≤ q i ∧ q i < 8) := hq
  have HO : Hid (SetRow w wM.heap.size v0 S0 ∧ Small S0 ∧ S0.length ≤ 1024 + 0 ∧ Below wM.heap.size wM w) := ⟨hR, hSm, hS0, hbM⟩
  clear hS hMk hD hbel hq hR hSm hbM
  conv => arg 2; whnf
  unfold Ends
  go_wp2
  go_loopw [12, 14] (fun v i wr => ∃ k : Nat, k ≤ n ∧ i = .int .i64 k ∧ ∃ S, Hid (SetRow wr wM.heap.size v S ∧ Small S ∧ S.length ≤ 1024 + k ∧ Below wM.heap.size wM wr)) (fun _ i _ => n - (intOf i).toNat)
  case atStart => exact ⟨0, Nat.zero_le _, rfl, S0, HO⟩
  case round =>
    obtain ⟨k, hk, rfl, S, HK⟩ := hrel
    by_cases hlt : k < n
    · have hlt' : (k : Int) < (n : Int) := by omega
      obtain ⟨d0, d1', d2, d3, d4⟩ := (HD.out.below HK.out.2.2.2).2 k hlt
      obtain ⟨hy0, hy8⟩ := HQ.out k
      have hsz : wM.heap.size ≤ wr.heap.size := HK.out.2.2.2.size
      have ld : dB < wr.heap.size := Nat.lt_of_lt_of_le HD.out.1 hsz
      have hSl : S.length ≤ 1024 + k := HK.out.2.2.1
      have HR1 : wr.ownsRow wM.heap.size 43 2 u12 S.length (S.flatMap P2) := HK.out.1
      obtain ⟨y, hy⟩ : ∃ y, y = q k := ⟨_, rfl⟩
      rw [← hy] at d0 hy0 hy8
      clear d1' d2 d3 d4 hy
      by_cases hmk : k < n1
      · have hmk' : (k : Int) < (n1 : Int) := by omega
        obtain ⟨b, off, rfl, hb, hc⟩ := HMk.out (by omega)
        obtain ⟨z, hcz, hz0, hz1, _⟩ := hc k hmk
        have hcz' : wr.cell? ⟨b, off + k, none⟩ = some (.int .u8 z) := (HK.out.2.2.2.cell hb).trans hcz
        clear hc hcz
        have h3 : z % 3 = 0 ∨ z % 3 = 1 ∨ z % 3 = 2 := by omega
        have ht : z.tmod 3 = z % 3 := Int.tmod_eq_emod_of_nonneg hz0
        rcases h3 with h3 | h3 | h3
        · rw [h3] at ht
          go_wp2_with (at_builtin; refine wpList_append_own _ rfl (.tmp 114) (.tmp 122) 40 rfl wM.heap.size 43 i43 _ 2 16 Yba.underlying40 hi43 hz43 hs43 hb43 rfl (by decide) _ S.length (S.flatMap P2) rfl (HR1.alloc _) ⟨wr.heap.size, 0, none⟩ 1 1 [.int .u64 y, .int .i64 (k : Int)] rfl rfl ?c1 ?c2 ?c3 ?c4 ?c5 ?_)
          try (case c1 => exact World.news_of_block (cs := #[.int .u64 y, .int .i64 (k : Int)]) (t := 43) (fr := (0, 0)) (new_block _ _ _ (by simp)))
          case c2 => simp [Value.oneCell']
          case c3 => unfold maxLen; omega
          case c4 => omega
          case c5 => (try simp); omega
          intro v' w1 own1 grow1 nil1
          have R : Hid (SetRow w1 wM.heap.size v' (S ++ [(y, (k : Int))]) ∧ Small (S ++ [(y, (k : Int))]) ∧ (S ++ [(y, (k : Int))]).length ≤ 1024 + (k + 1) ∧ Below wM.heap.size wM w1) :=
            ⟨set_snoc own1, small_snoc HK.out.2.1 hy0 hy8 (by omega) (by omega), by rw [List.length_append]; simp; omega, Below.grown (HK.out.2.2.2.alloc hsz _) grow1 (by simp; omega) (fun j hj => (HR1.lt j hj).1)⟩
          clear own1 grow1 nil1 HR1
          go_wp2
          go_roundw
          case rel => exact ⟨k + 1, by omega, by go_num, _, R⟩
          case measure => simp [intOf]; omega
        · rw [h3] at ht
          go_wp2_with (at_builtin; refine wpList_append_own _ rfl (.tmp 126) (.tmp 135) 40 rfl wM.heap.size 43 i43 _ 2 16 Yba.underlying40 hi43 hz43 hs43 hb43 rfl (by decide) _ S.length (S.flatMap P2) rfl (HR1.alloc _) ⟨wr.heap.size, 0, none⟩ 1 1 [.int .u64 y, .int .i64 ((k : Int) + 1)] rfl rfl ?c1 ?c2 ?c3 ?c4 ?c5 ?_)
          try (case c1 => exact World.news_of_block (cs := #[.int .u64 y, .int .i64 ((k : Int) + 1)]) (t := 43) (fr := (0, 0)) (new_block _ _ _ (by simp)))
          case c2 => simp [Value.oneCell']
          case c3 => unfold maxLen; omega
          case c4 => omega
          case c5 => (try simp); omega
          intro v' w1 own1 grow1 nil1
          have R : Hid (SetRow w1 wM.heap.size v' (S ++ [(y, ((k : Int) + 1))]) ∧ Small (S ++ [(y, ((k : Int) + 1))]) ∧ (S ++ [(y, ((k : Int) + 1))]).length ≤ 1024 + (k + 1) ∧ Below wM.heap.size wM w1) :=
            ⟨set_snoc own1, small_snoc HK.out.2.1 hy0 hy8 (by omega) (by omega), by rw [List.length_append]; simp; omega, Below.grown (HK.out.2.2.2.alloc hsz _) grow1 (by simp; omega) (fun j hj => (HR1.lt j hj).1)⟩
          clear own1 grow1 nil1 HR1
          go_wp2
          go_roundw
          case rel => exact ⟨k + 1, by omega, by go_num, _, R⟩
          case measure => simp [intOf]; omega
        · rw [h3] at ht
          go_wp2
          go_roundw
          case rel => exact ⟨k + 1, by omega, by go_num, S, HK.out.1, HK.out.2.1, by omega, HK.out.2.2.2⟩
          case measure => simp [intOf]; omega
      · have hmk' : ¬ (k : Int) < (n1 : Int) := by omega
        go_wp2_with (at_builtin; refine wpList_append_own _ rfl (.tmp 114) (.tmp 122) 40 rfl wM.heap.size 43 i43 _ 2 16 Yba.underlying40 hi43 hz43 hs43 hb43 rfl (by decide) _ S.length (S.flatMap P2) rfl (HR1.alloc _) ⟨wr.heap.size, 0, none⟩ 1 1 [.int .u64 y, .int .i64 (k : Int)] rfl rfl ?c1 ?c2 ?c3 ?c4 ?c5 ?_)
        try (case c1 => exact World.news_of_block (cs := #[.int .u64 y, .int .i64 (k : Int)]) (t := 43) (fr := (0, 0)) (new_block _ _ _ (by simp)))
        case c2 => simp [Value.oneCell']
        case c3 => unfold maxLen; omega
        case c4 => omega
        case c5 => (try simp); omega
        intro v' w1 own1 grow1 nil1
        have R : Hid (SetRow w1 wM.heap.size v' (S ++ [(y, (k : Int))]) ∧ Small (S ++ [(y, (k : Int))]) ∧ (S ++ [(y, (k : Int))]).length ≤ 1024 + (k + 1) ∧ Below wM.heap.size wM w1) :=
          ⟨set_snoc own1, small_snoc HK.out.2.1 hy0 hy8 (by omega) (by omega), by rw [List.length_append]; simp; omega, Below.grown (HK.out.2.2.2.alloc hsz _) grow1 (by simp; omega) (fun j hj => (HR1.lt j hj).1)⟩
        clear own1 grow1 nil1 HR1
        go_wp2
        go_roundw
        case rel => exact ⟨k + 1, by omega, by go_num, _, R⟩
        case measure => simp [intOf]; omega
    · have hge : ¬ (k : Int) < (n : Int) := by omega
      obtain rfl : k = n := by omega
      obtain ⟨sa, sc, rfl, hT⟩ := SetsAt.of_own HK.out.1
      have b := HK.out.2.2.2
      have hSl : S.length ≤ 4096 := by have := HK.out.2.2.1; omega
      go_upto_if 99 with fail
      iterate 6 go_step
      exact stageD (w := wr) q hn HQ.out hSl HK.out.2.1 (Nat.le_trans hB b.size) (HB.out.trans (b.mono hB)) (HS.out.below b) (HD.out.below b) hT
end Go.Proofs.Ybulkdfvk
