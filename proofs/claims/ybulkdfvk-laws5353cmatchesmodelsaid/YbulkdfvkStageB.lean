/-
  LawS5353CMatchesModel, from the loop over the extra stores on.
-/
import Derived.Test.YbulkdfvkStageC
namespace Go.Proofs.Ybulkdfvk
open Go.RowKit Go.Maps

/-- The extra values as they lie in the last argument. -/
def ValsAt (w : World) (a0 : Option Addr) (n : Nat) : Prop :=
  0 < n → ∃ b off, a0 = some ⟨b, off, none⟩ ∧ b < w.heap.size ∧ ∀ i, i < n → ∃ z, w.cell? ⟨b, off + i, none⟩ = some (.int .i16 z) ∧ -32768 ≤ z ∧ z ≤ 32767
theorem ValsAt.below {w w' : World} {a0 : Option Addr} {n : Nat} (h : ValsAt w a0 n) (hb : Below w.heap.size w w') : ValsAt w' a0 n := fun hn => by
  obtain ⟨b, off, e, hlt, hc⟩ := h hn
  refine ⟨b, off, e, Nat.lt_of_lt_of_le hlt hb.size, fun i hi => ?_⟩
  obtain ⟨z, h1, h2⟩ := hc i hi
  exact ⟨z, (hb.cell hlt).trans h1, h2⟩

set_option maxHeartbeats 4000000 in
set_option maxRecDepth 100000 in
theorem stageB {c4 c5 c6 c7 c8 c11 c12 c13 c14 c15 c16 c17 c18 c19 c20 c21 c22 c23 c24 c25 c26 c27 c28 c29 c30 c31 c32 c33 c34 c35 c36 c37 c38 c39 c40 c41 c42 c43 c44 c45 c46 c47 c48 c49 c50 c51 c52 c53 c54 c55 c56 c57 c58 c59 c60 c61 c62 c63 c64 c65 c66 c67 c68 c69 c70 c71 c72 c73 c74 c75 c76 c77 c78 c79 c80 c81 c82 c83 c84 c85 c86 c87 c88 c89 c90 c91 c92 c93 c94 c95 c96 c97 c98 c99 c100 c101 c102 c103 c104 c105 c106 c107 c108 c109 c110 c111 c112 c113 c114 c115 c116 c117 c118 c119 c120 c121 c122 c123 c124 c125 c126 c127 c128 c129 c130 c131 c132 c133 c134 c135 c136 c137 c138 c139 c140 c141 c142 c143 c144 c145 c146 c147 c148 c149 c150 c151 c152 c153 c154 c155 c156 c157 c158 c159 c160 c161 c162 c163 c164 c165 c166 c167 c168 c169 c170 c171 c172 c173 c174 c175 c176 c177 c178 c179 c180 c181 c182 c183 c184 c185 c186 c187 c188 c189 c190 c191 c192 c193 c194 c195 c196 c197 c198 c199 c200 c201 c202 c203 c204 c205 c206 c207 c208 c209 c210 c211 c212 c213 c214 c215 c216 c217 c218 c219 c220 c221 c222 c223 c224 c225 c226 c227 c228 c229 c230 c231 c232 c233 c234 c235 c236 c237 c238 c239 c240 c241 c242 c243 c244 c245 c246 c247 c248 c249 c250 c251 c252 c253 c254 c255 c256 c257 : Value} {a0 a1 a2 a3 : Option Addr} {n c n1 d1 n2 d2 n3 d3 dB B0 : Nat} {w0 w : World} (q q1 q2 : Nat → Int) (hn : n ≤ 1024) (hn1 : n1 ≤ 1024) (hn2 : n2 ≤ 1024) (hn3 : n3 ≤ 1024) (hq : ∀ i, 0 ≤ q i ∧ q i < 8) (hB : B0 ≤ w.heap.size) (hbel : Below B0 w0 w) (hS : SeqsAt w a0 n q) (hMk : SeqsAt w a1 n1 q1) (hX : SeqsAt w a2 n2 q2) (hV : ValsAt w a3 n3)
    (hD : DeathsAt w dB n q) :
    Code.wp Yba.prog (codeOf Yba.f4 5) (Ends B0 w0) ⟨#[.slice a0 n c, .slice a1 n1 d1, .slice a2 n2 d2, .slice a3 n3 d3, c4, c5, c6, c7, c8, .int .i64 n, .slice (some ⟨dB, 0, none⟩) n n, c11, c12, c13, c14, c15, c16, c17, c18, c19, c20, c21, c22, c23, c24, c25, c26, c27, c28, c29, c30, c31, c32, c33, c34, c35, c36, c37, c38, c39, c40, c41, c42, c43, c44, c45, c46, c47, c48, c49, c50, c51, c52, c53, c54, c55, c56, c57, c58, c59, c60, c61, c62, c63, c64, c65, c66, c67, c68, c69, c70, c71, c72, c73, c74, c75, c76, c77, c78, c79, c80, c81, c82, c83, c84, c85, c86, c87, c88, c89, c90, c91, c92, c93, c94, c95, c96, c97, c98, c99, c100, c101, c102, c103, c104, c105, c106, c107, c108, c109, c110, c111, c112, c113, c114, c115, c116, c117, c118, c119, c120, c121, c122, c123, c124, c125, c126, c127, c128, c129, c130, c131, c132, c133, c134, c135, c136, c137, c138, c139, c140, c141, c142, c143, c144, c145, c146, c147, c148, c149, c150, c151, c152, c153, c154, c155, c156, c157, c158, c159, c160, c161, c162, c163, c164, c165, c166, c167, c168, c169, c170, c171, c172, c173, c174, c175, c176, c177, c178, c179, c180, c181, c182, c183, c184, c185, c186, c187, c188, c189, c190, c191, c192, c193, c194, c195, c196, c197, c198, c199, c200, c201, c202, c203, c204, c205, c206, c207, c208, c209, c210, c211, c212, c213, c214, c215, c216, c217, c218, c219, c220, c221, c222, c223, c224, c225, c226, c227, c228, c229, c230, c231, c232, c233, c234, c235, c236, c237, c238, c239, c240, c241, c242, c243, c244, c245, c246, c247, c248, c249, c250, c251, c252, c253, c254, c255, c256, c257], []⟩ w := by
  have hn2' : (n2 : Int) ≤ 1024 := by omega
  have hn3' : (n3 : Int) ≤ 1024 := by omega
  obtain ⟨i43, hi43, hz43, hs43, hb43⟩ := info_parts info43
  have HS : Hid (SeqsAt w a0 n q) := hS
  have HMk : Hid (SeqsAt w a1 n1 q1) := hMk
  have HX : Hid (SeqsAt w a2 n2 q2) := hX
  have HV : Hid (ValsAt w a3 n3) := hV
  have HD : Hid (DeathsAt w dB n q) := hD
  have HB : Hid (Below B0 w0 w) := hbel
  have HQ : Hid (∀ i, 0 ≤ q i ∧ q i < 8) := hq
  clear hS hMk hX hV hD hbel hq
  conv => arg 2; whnf
  unfold Ends
  go_wp2
  go_loopw [12, 13] (fun v i wr => ∃ k : Nat, (k ≤ n2 ∧ k ≤ n3) ∧ i = .int .i64 k ∧ ∃ S, Hid (SetRow wr w.heap.size v S ∧ Small S ∧ S.length ≤ k ∧ Below w.heap.size w wr)) (fun _ i _ => n2 - (intOf i).toNat)
  case atStart => exact ⟨0, ⟨Nat.zero_le _, Nat.zero_le _⟩, rfl, [], World.ownsRow_nil _ _ _ _, (fun p hp => by cases hp), Nat.le_refl _, Below.refl _ _⟩
  case round =>
    obtain ⟨k, ⟨hk2, hk3⟩, rfl, S, HK⟩ := hrel
    by_cases hlt2 : k < n2
    · have hlt2' : (k : Int) < (n2 : Int) := by omega
      by_cases hlt3 : k < n3
      · have hlt3' : (k : Int) < (n3 : Int) := by omega
        have hsz : w.heap.size ≤ wr.heap.size := HK.out.2.2.2.size
        have hSl : S.length ≤ k := HK.out.2.2.1
        have HR1 : wr.ownsRow w.heap.size 43 2 u12 S.length (S.flatMap P2) := HK.out.1
        obtain ⟨b, off, rfl, hb, hc⟩ := HX.out (by omega)
        obtain ⟨z, hcz, hz0, hz1, _⟩ := hc k hlt2
        have hcz' : wr.cell? ⟨b, off + k, none⟩ = some (.int .u8 z) := (HK.out.2.2.2.cell hb).trans hcz
        obtain ⟨b3, off3, rfl, hb3, hc3⟩ := HV.out (by omega)
        obtain ⟨x, hcx, hx0, hx1⟩ := hc3 k hlt3
        have hcx' : wr.cell? ⟨b3, off3 + k, none⟩ = some (.int .i16 x) := (HK.out.2.2.2.cell hb3).trans hcx
        have ag : u12.ownBlock ≠ some b := fun e => by have := (HR1.lt b e).1; omega
        have ak : u12.ownBlock ≠ some b3 := fun e => by have := (HR1.lt b3 e).1; omega
        have lb : b < wr.heap.size := by omega
        have lb3 : b3 < wr.heap.size := by omega
        obtain ⟨y, hy⟩ : ∃ y, z % 8 = y := ⟨_, rfl⟩
        have hy1 : z.tmod 8 = y := by rw [Int.tmod_eq_emod_of_nonneg hz0, hy]
        have hy2 : IntKind.u64.wrap y = y := by rw [IntKind.wrap_u64]; omega
        have hy0 : 0 ≤ y := by omega
        have hy8 : y < 8 := by omega
        have hx2 : IntKind.i64.wrap x = x := by rw [IntKind.wrap_i64]; omega
        have hx3 : wrap64 x = x := by unfold wrap64; omega
        clear hc hcz hc3 hcx hy
        go_upto_region 13 with fail
        go_region_held3 (fun w' => w'.cell? ⟨b, off + k, none⟩ = some (.int .u8 z) ∧ w'.cell? ⟨b3, off3 + k, none⟩ = some (.int .i16 x))
          (first
            | go_keep
            | (go_split_ands
               refine ⟨?_, ?_⟩
               · (rw [hgrow.cell_far _ (by simp; omega) (Ne.symm ag)]; assumption)
               · (rw [hgrow.cell_far _ (by simp; omega) (Ne.symm ak)]; assumption)))
          ((refine step_append_lies _ (by rfl) _ _ _ (by rfl) w.heap.size 43 i43 _ 2 16 Yba.underlying40 hi43 hz43 hs43 hb43 rfl (by omega) u12 S.length (S.flatMap P2) (by rfl) ((HR1.alloc _).drew)
              ⟨wr.heap.size, 0, none⟩ 1 1 [.int .u64 y, .int .i64 x] (by rfl) (by rfl) (World.news_of_block (cs := #[.int .u64 y, .int .i64 x]) (t := 43) (fr := (0, 0)) (heap_alloc_new wr _)) (by simp [Value.oneCell'])
              (by omega) (by unfold maxLen; omega) (by omega) (by simp; omega) (wr.heap.size + 1) (by simp) ?_; intro gg cap w1 hown1 hgrow hat hlt))
        have R : Hid (SetRow w1 w.heap.size (.slice (some ⟨gg, 0, none⟩) (S.length + 1) cap) (S ++ [(y, x)]) ∧ Small (S ++ [(y, x)]) ∧ (S ++ [(y, x)]).length ≤ k + 1 ∧ Below w.heap.size w w1) :=
          ⟨set_snoc hown1, small_snoc HK.out.2.1 hy0 hy8 (by omega) (by omega), by rw [List.length_append]; simp; omega, Below.grown ((HK.out.2.2.2.alloc hsz _).drew) hgrow (by simp; omega) (fun j hj => (HR1.lt j hj).1)⟩
        clear hown1 hgrow hat hlt HR1 ag ak
        go_wp2
        go_roundw
        case rel => first | exact ⟨k + 1, ⟨by omega, by omega⟩, by go_num, _, R⟩ | ((repeat apply Exists.intro); exact ⟨⟨k + 1, ⟨by omega, by omega⟩, by go_num, _, R⟩, rfl⟩)
        case measure => simp [intOf]; omega
      · have hge : ¬ (k : Int) < (n3 : Int) := by omega
        go_upto_if 79 with fail
        iterate 6 go_step
        exact stageC (wM := w) (w := wr) (S0 := S) q q1 hn hn1 HQ.out (by have := HK.out.2.2.1; omega) HK.out.2.1 hB HB.out HK.out.2.2.2 HS.out HMk.out HD.out HK.out.1
    · have hge : ¬ (k : Int) < (n2 : Int) := by omega
      go_upto_if 79 with fail
      iterate 6 go_step
      exact stageC (wM := w) (w := wr) (S0 := S) q q1 hn hn1 HQ.out (by have := HK.out.2.2.1; omega) HK.out.2.1 hB HB.out HK.out.2.2.2 HS.out HMk.out HD.out HK.out.1
end Go.Proofs.Ybulkdfvk
