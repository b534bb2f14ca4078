/-
  LawS5353CMatchesModel, the loop that gathers what is wanted (and the search from the end inside it), and what follows.
-/
import Derived.Test.YbulkdfvkStageG
namespace Go.Proofs.Ybulkdfvk
open Go.RowKit Go.Maps

/-- The list of stores. -/
def SetsAt (w : World) (sa : Option Addr) (S : List (Int × Int)) : Prop :=
  0 < S.length → ∃ g, sa = some ⟨g, 0, none⟩ ∧ g < w.heap.size ∧ ∀ (j : Nat) (p : Int × Int), S[j]? = some p → w.cell? ⟨g, j * 2, none⟩ = some (.int .u64 p.1) ∧ w.cell? ⟨g, j * 2 + 1, none⟩ = some (.int .i64 p.2)
theorem SetsAt.below {w w' : World} {sa : Option Addr} {S : List (Int × Int)} (h : SetsAt w sa S) (hb : Below w.heap.size w w') : SetsAt w' sa S := fun hn => by
  obtain ⟨g, e, hlt, hc⟩ := h hn
  refine ⟨g, e, Nat.lt_of_lt_of_le hlt hb.size, fun j p hp => ?_⟩
  obtain ⟨h0, h1⟩ := hc j p hp
  exact ⟨(hb.cell hlt).trans h0, (hb.cell hlt).trans h1⟩

theorem last_hit {S : List (Int × Int)} {t : Nat} {y : Int} {p : Int × Int} (hp : S[t]? = some p) (h : p.1 = y) : lastOf (S.take (t + 1)) y = some p.2 := by
  have ht : t < S.length := (List.getElem?_eq_some_iff.1 hp).1
  have e : S[t] = p := (List.getElem?_eq_some_iff.1 hp).2
  rw [List.take_succ_eq_append_getElem ht, e, lastOf_snoc, if_pos h]
theorem last_miss {S : List (Int × Int)} {t : Nat} {y : Int} {p : Int × Int} (hp : S[t]? = some p) (h : ¬ p.1 = y) : lastOf (S.take (t + 1)) y = lastOf (S.take t) y := by
  have ht : t < S.length := (List.getElem?_eq_some_iff.1 hp).1
  have e : S[t] = p := (List.getElem?_eq_some_iff.1 hp).2
  rw [List.take_succ_eq_append_getElem ht, e, lastOf_snoc, if_neg h]

theorem info3 : (Yba.prog.info? 3).map (fun i => (i.zero, i.size, i.bytes)) = some (some (.int .i64 0), 1, 8) := by kernel_rfl

/-- The row of what is wanted, one step on. -/
def WantRow (w' : World) (B : Nat) (v : Value) (P : List Nat) : Prop := w'.ownsRow B 3 1 v P.length (P.map fun i : Nat => Value.int .i64 (i : Int))
theorem want_yes {w' : World} {B k : Nat} {S : List (Int × Int)} {q : Nat → Int} {v' : Value} (h : pk S q k = true)
    (own1 : w'.ownsRow B 3 1 v' ((picks S q k).length + 1) (((picks S q k).map fun i : Nat => Value.int .i64 (i : Int)) ++ [.int .i64 k])) : WantRow w' B v' (picks S q (k + 1)) := by
  unfold WantRow
  rw [picks_yes h, List.length_append, List.map_append]
  exact own1

set_option maxHeartbeats 4000000 in
set_option maxRecDepth 100000 in
theorem stageF {c1 c2 c3 c4 c5 c6 c7 c8 c11 c13 c14 c15 c16 c17 c18 c21 c22 c23 c24 c25 c26 c27 c28 c29 c30 c31 c32 c33 c34 c35 c36 c37 c38 c39 c40 c41 c42 c43 c44 c45 c46 c47 c48 c49 c50 c51 c52 c53 c54 c55 c56 c57 c58 c59 c60 c61 c62 c63 c64 c65 c66 c67 c68 c69 c70 c71 c72 c73 c74 c75 c76 c77 c78 c79 c80 c81 c82 c83 c84 c85 c86 c87 c88 c89 c90 c91 c92 c93 c94 c95 c96 c97 c98 c99 c100 c101 c102 c103 c104 c105 c106 c107 c108 c109 c110 c111 c112 c113 c114 c115 c116 c117 c118 c119 c120 c121 c122 c123 c124 c125 c126 c127 c128 c129 c130 c131 c132 c133 c134 c135 c136 c137 c138 c139 c140 c141 c142 c143 c144 c145 c146 c147 c148 c149 c150 c151 c152 c153 c154 c155 c156 c157 c158 c159 c160 c161 c162 c163 c164 c165 c166 c167 c168 c169 c170 c171 c172 c173 c174 c175 c176 c177 c178 c179 c180 c181 c182 c183 c184 c185 c186 c187 c188 c189 c190 c191 c192 c193 c194 c195 c196 c197 c198 c199 c200 c201 c202 c203 c204 c205 c206 c207 c208 c209 c210 c211 c212 c213 c214 c215 c216 c217 c218 c219 c220 c221 c222 c223 c224 c225 c226 c227 c228 c229 c230 c231 c232 c233 c234 c235 c236 c237 c238 c239 c240 c241 c242 c243 c244 c245 c246 c247 c248 c249 c250 c251 c252 c253 c254 c255 c256 c257 : Value} {a0 sa ga : Option Addr} {n c sc gc rB dB B0 : Nat} {S : List (Int × Int)} {w0 w : World} (q : Nat → Int) (hn : n ≤ 1024) (hSl : S.length ≤ 4096) (hB : B0 ≤ w.heap.size) (hbel : Below B0 w0 w) (hS : SeqsAt w a0 n q) (hrB : rB < w.heap.size)
    (hr8 : w.cell? ⟨rB, 8, none⟩ = some (.slice (some ⟨dB, 0, none⟩) n n)) (hD : DeathsAt w dB n q) (hG : GotAt w ga (picks S q n) q) (hT : SetsAt w sa S) :
    Code.wp Yba.prog (codeOf Yba.f4 12) (Ends B0 w0) ⟨#[.slice a0 n c, c1, c2, c3, c4, c5, c6, c7, c8, .int .i64 n, .slice (some ⟨dB, 0, none⟩) n n, c11, .slice sa S.length sc, c13, c14, c15, c16, c17, c18, .pointer (some ⟨rB, 0, none⟩), .slice ga (picks S q n).length gc, c21, c22, c23, c24, c25, c26, c27, c28, c29, c30, c31, c32, c33, c34, c35, c36, c37, c38, c39, c40, c41, c42, c43, c44, c45, c46, c47, c48, c49, c50, c51, c52, c53, c54, c55, c56, c57, c58, c59, c60, c61, c62, c63, c64, c65, c66, c67, c68, c69, c70, c71, c72, c73, c74, c75, c76, c77, c78, c79, c80, c81, c82, c83, c84, c85, c86, c87, c88, c89, c90, c91, c92, c93, c94, c95, c96, c97, c98, c99, c100, c101, c102, c103, c104, c105, c106, c107, c108, c109, c110, c111, c112, c113, c114, c115, c116, c117, c118, c119, c120, c121, c122, c123, c124, c125, c126, c127, c128, c129, c130, c131, c132, c133, c134, c135, c136, c137, c138, c139, c140, c141, c142, c143, c144, c145, c146, c147, c148, c149, c150, c151, c152, c153, c154, c155, c156, c157, c158, c159, c160, c161, c162, c163, c164, c165, c166, c167, c168, c169, c170, c171, c172, c173, c174, c175, c176, c177, c178, c179, c180, c181, c182, c183, c184, c185, c186, c187, c188, c189, c190, c191, c192, c193, c194, c195, c196, c197, c198, c199, c200, c201, c202, c203, c204, c205, c206, c207, c208, c209, c210, c211, c212, c213, c214, c215, c216, c217, c218, c219, c220, c221, c222, c223, c224, c225, c226, c227, c228, c229, c230, c231, c232, c233, c234, c235, c236, c237, c238, c239, c240, c241, c242, c243, c244, c245, c246, c247, c248, c249, c250, c251, c252, c253, c254, c255, c256, c257], []⟩ w := by
  have hn' : (n : Int) ≤ 1024 := by omega
  have hSl' : (S.length : Int) ≤ 4096 := by omega
  obtain ⟨i3, hi3, hz3, hs3, hb3⟩ := info_parts info3
  have HS : Hid (SeqsAt w a0 n q) := hS
  have HD : Hid (DeathsAt w dB n q) := hD
  have HB : Hid (Below B0 w0 w) := hbel
  have HG : Hid (GotAt w ga (picks S q n) q) := hG
  have HT : Hid (SetsAt w sa S) := hT
  clear hS hD hbel hG hT
  conv => arg 2; whnf
  unfold Ends
  go_wp2
  go_loopw [21, 22] (fun v i wr => ∃ k : Nat, k ≤ n ∧ i = .int .i64 k ∧ Hid (WantRow wr w.heap.size v (picks S q k) ∧ Below w.heap.size w wr)) (fun _ i _ => n - (intOf i).toNat)
  case atStart => exact ⟨0, Nat.zero_le _, rfl, World.ownsRow_nil _ _ _ _, Below.refl _ _⟩
  case round =>
    obtain ⟨k, hk, rfl, HK⟩ := hrel
    by_cases hlt : k < n
    · have hlt' : (k : Int) < (n : Int) := by omega
      obtain ⟨d0, d1, d2, d3, d4⟩ := (HD.out.below HK.out.2).2 k hlt
      obtain ⟨y, hy⟩ : ∃ y, y = q k := ⟨_, rfl⟩
      rw [← hy] at d0
      have HY : Hid (y = q k) := hy
      clear d1 d2 d3 d4 hy
      have hsz : w.heap.size ≤ wr.heap.size := HK.out.2.size
      have hpl := picks_le S q k
      go_wp2
      go_loop [24, 25, 26] (fun f v i => ∃ j : Nat, j ≤ S.length ∧ f = .bool false ∧ v = .int .i64 0 ∧ i = .int .i64 ((j : Int) - 1) ∧ Hid (lastOf S y = lastOf (S.take j) y)) (fun _ _ i => (intOf i + 1).toNat)
      case atStart => exact ⟨S.length, Nat.le_refl _, rfl, rfl, rfl, by unfold Hid; rw [List.take_length]⟩
      case round =>
        obtain ⟨j, hj, rfl, rfl, rfl, HL⟩ := hrel
        cases j with
        | zero =>
          have HP : Hid (pk S q k = false) := by
            unfold Hid pk
            rw [← HY.out, HL.out]
            exact decide_eq_false (by rw [List.take_zero, lastOf_nil]; exact fun h => by cases h)
          have hm1 : ¬ (0 : Int) ≤ ((0 : Nat) : Int) - 1 := by omega
          go_wp2
          go_roundw
          case rel => exact ⟨k + 1, by omega, by go_num, by rw [picks_no HP.out]; exact HK.out.1, HK.out.2⟩
          case measure => simp [intOf]; omega
        | succ t =>
          have htl : t < S.length := by omega
          obtain ⟨p, hp⟩ : ∃ p, S[t]? = some p := ⟨S[t], List.getElem?_eq_getElem htl⟩
          obtain ⟨g, rfl, hg, hcs⟩ := HT.out (by omega)
          obtain ⟨s0, s1⟩ := hcs t p hp
          have s0' : wr.cell? ⟨g, t * 2, none⟩ = some (.int .u64 p.1) := (HK.out.2.cell hg).trans s0
          have s1' : wr.cell? ⟨g, t * 2 + 1, none⟩ = some (.int .i64 p.2) := (HK.out.2.cell hg).trans s1
          have htl' : (t : Int) < (S.length : Int) := by omega
          have ecast : ((t + 1 : Nat) : Int) - 1 = (t : Int) := by omega
          clear hcs s0 s1
          rw [ecast]
          by_cases hpy : p.1 = y
          · have hpy' : (p.1 == y) = true := by simp [hpy]
            have HC : Hid (lastOf S y = some p.2) := by unfold Hid; rw [HL.out]; exact last_hit hp hpy
            clear hp hpy
            by_cases hck : p.2 = (k : Int)
            · have HP : Hid (pk S q k = true) := by
                unfold Hid pk
                rw [← HY.out, HC.out, hck]
                exact decide_eq_true rfl
              have hck' : (p.2 == (k : Int)) = true := by simp [hck]
              have HK1 : wr.ownsRow w.heap.size 3 1 u21 (picks S q k).length ((picks S q k).map fun i : Nat => Value.int .i64 (i : Int)) := HK.out.1
              clear hck
              go_wp2_with (at_builtin; refine wpList_append_own _ rfl (.tmp 191) (.tmp 193) 55 rfl w.heap.size 3 i3 (.int .i64 0) 1 8 Yba.underlying55 hi3 hz3 hs3 hb3 rfl (by decide) _ (picks S q k).length ((picks S q k).map fun i : Nat => Value.int .i64 (i : Int)) rfl (HK1.alloc _) ⟨wr.heap.size, 0, none⟩ 1 1 [.int .i64 k] rfl rfl (cell_one_new _ _ _) (ints_oneCell .i64 [(k : Int)]) (by unfold maxLen; omega) (by omega) (by simp; omega) ?_; intro v' w1 own1 grow1 nil1)
              have R : Hid (WantRow w1 w.heap.size v' (picks S q (k + 1)) ∧ Below w.heap.size w w1) := by
                refine ⟨want_yes HP.out own1, ?_⟩
                exact Below.grown (HK.out.2.alloc hsz _) grow1 (by simp; omega) (fun j hj => (HK1.lt j hj).1)
              clear own1 grow1 nil1 HK1
              go_wp2
              go_roundw
              case rel => exact ⟨k + 1, by omega, by go_num, R⟩
              case measure => simp [intOf]; omega
            · have HP : Hid (pk S q k = false) := by
                unfold Hid pk
                rw [← HY.out, HC.out]
                exact decide_eq_false (fun h => hck (Option.some.inj h))
              have hck' : (p.2 == (k : Int)) = false := by simp [hck]
              clear hck
              go_wp2
              go_roundw
              case rel => exact ⟨k + 1, by omega, by go_num, by rw [picks_no HP.out]; exact HK.out.1, HK.out.2⟩
              case measure => simp [intOf]; omega
          · have hpy' : (p.1 == y) = false := by simp [hpy]
            have HC : Hid (lastOf S y = lastOf (S.take t) y) := by unfold Hid; rw [HL.out]; exact last_miss hp hpy
            clear hp hpy
            go_wp2
            go_round
            case rel => exact ⟨t, by omega, rfl, rfl, by go_num, HC⟩
            case measure => simp [intOf]
    · have hge : ¬ (k : Int) < (n : Int) := by omega
      obtain rfl : k = n := by omega
      obtain ⟨wa, wc, rfl, hW⟩ := WantAt.of_own HK.out.1
      go_upto_if 158 with fail
      iterate 6 go_step
      exact stageG (w := wr) q hn (Nat.le_trans hB HK.out.2.size) (HB.out.trans (HK.out.2.mono hB)) (HS.out.below HK.out.2) (Nat.lt_of_lt_of_le hrB HK.out.2.size) ((HK.out.2.cell hrB).trans hr8) (HD.out.below HK.out.2) (HG.out.below HK.out.2) hW (fun i hi => picks_lt hi) (picks_le S q k)
end Go.Proofs.Ybulkdfvk
