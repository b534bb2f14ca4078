/-
  LawS5353CMatchesModel, from the making of the map and the loop that fills it on.
-/
import Derived.Test.YbulkdfvkStageE
import Derived.Maps.Own
import Derived.Maps.OwnOps
namespace Go.Proofs.Ybulkdfvk
open Go.RowKit Go.Maps

/-- Keys and values as they come. -/
def Small (S : List (Int × Int)) : Prop := ∀ p ∈ S, (0 ≤ p.1 ∧ p.1 < 8) ∧ -32768 ≤ p.2 ∧ p.2 ≤ 32767
theorem map_step {w' : World} {mB j : Nat} {S : List (Int × Int)} {p : Int × Int} (hp : S[j]? = some p)
    (h : w'.ownsMap Yba.prog 32 (plainElem Yba.prog 3) mB (j + 1) ((datum (S.take j)).put (.int .u64 p.1) (.lit (.int .i64 p.2)))) : w'.ownsMap Yba.prog 32 (plainElem Yba.prog 3) mB (j + 1) (datum (S.take (j + 1))) := by
  have ht : j < S.length := (List.getElem?_eq_some_iff.1 hp).1
  have e : S[j] = p := (List.getElem?_eq_some_iff.1 hp).2
  rw [List.take_succ_eq_append_getElem ht, e, datum_snoc]
  exact h

set_option maxHeartbeats 2000000 in
set_option maxRecDepth 100000 in
theorem stageD {c1 c2 c3 c4 c5 c6 c7 c8 c11 c13 c14 c15 c16 c17 c18 c19 c20 c21 c22 c23 c24 c25 c26 c27 c28 c29 c30 c31 c32 c33 c34 c35 c36 c37 c38 c39 c40 c41 c42 c43 c44 c45 c46 c47 c48 c49 c50 c51 c52 c53 c54 c55 c56 c57 c58 c59 c60 c61 c62 c63 c64 c65 c66 c67 c68 c69 c70 c71 c72 c73 c74 c75 c76 c77 c78 c79 c80 c81 c82 c83 c84 c85 c86 c87 c88 c89 c90 c91 c92 c93 c94 c95 c96 c97 c98 c99 c100 c101 c102 c103 c104 c105 c106 c107 c108 c109 c110 c111 c112 c113 c114 c115 c116 c117 c118 c119 c120 c121 c122 c123 c124 c125 c126 c127 c128 c129 c130 c131 c132 c133 c134 c135 c136 c137 c138 c139 c140 c141 c142 c143 c144 c145 c146 c147 c148 c149 c150 c151 c152 c153 c154 c155 c156 c157 c158 c159 c160 c161 c162 c163 c164 c165 c166 c167 c168 c169 c170 c171 c172 c173 c174 c175 c176 c177 c178 c179 c180 c181 c182 c183 c184 c185 c186 c187 c188 c189 c190 c191 c192 c193 c194 c195 c196 c197 c198 c199 c200 c201 c202 c203 c204 c205 c206 c207 c208 c209 c210 c211 c212 c213 c214 c215 c216 c217 c218 c219 c220 c221 c222 c223 c224 c225 c226 c227 c228 c229 c230 c231 c232 c233 c234 c235 c236 c237 c238 c239 c240 c241 c242 c243 c244 c245 c246 c247 c248 c249 c250 c251 c252 c253 c254 c255 c256 c257 : Value} {a0 sa : Option Addr} {n c sc dB B0 : Nat} {S : List (Int × Int)} {w0 w : World} (q : Nat → Int) (hn : n ≤ 1024) (hq : ∀ i, 0 ≤ q i ∧ q i < 8) (hSl : S.length ≤ 4096) (hSm : Small S) (hB : B0 ≤ w.heap.size) (hbel : Below B0 w0 w) (hS : SeqsAt w a0 n q)
    (hD : DeathsAt w dB n q) (hT : SetsAt w sa S) :
    Code.wp Yba.prog (codeOf Yba.f4 8) (Ends B0 w0) ⟨#[.slice a0 n c, c1, c2, c3, c4, c5, c6, c7, c8, .int .i64 n, .slice (some ⟨dB, 0, none⟩) n n, c11, .slice sa S.length sc, c13, c14, c15, c16, c17, c18, c19, c20, c21, c22, c23, c24, c25, c26, c27, c28, c29, c30, c31, c32, c33, c34, c35, c36, c37, c38, c39, c40, c41, c42, c43, c44, c45, c46, c47, c48, c49, c50, c51, c52, c53, c54, c55, c56, c57, c58, c59, c60, c61, c62, c63, c64, c65, c66, c67, c68, c69, c70, c71, c72, c73, c74, c75, c76, c77, c78, c79, c80, c81, c82, c83, c84, c85, c86, c87, c88, c89, c90, c91, c92, c93, c94, c95, c96, c97, c98, c99, c100, c101, c102, c103, c104, c105, c106, c107, c108, c109, c110, c111, c112, c113, c114, c115, c116, c117, c118, c119, c120, c121, c122, c123, c124, c125, c126, c127, c128, c129, c130, c131, c132, c133, c134, c135, c136, c137, c138, c139, c140, c141, c142, c143, c144, c145, c146, c147, c148, c149, c150, c151, c152, c153, c154, c155, c156, c157, c158, c159, c160, c161, c162, c163, c164, c165, c166, c167, c168, c169, c170, c171, c172, c173, c174, c175, c176, c177, c178, c179, c180, c181, c182, c183, c184, c185, c186, c187, c188, c189, c190, c191, c192, c193, c194, c195, c196, c197, c198, c199, c200, c201, c202, c203, c204, c205, c206, c207, c208, c209, c210, c211, c212, c213, c214, c215, c216, c217, c218, c219, c220, c221, c222, c223, c224, c225, c226, c227, c228, c229, c230, c231, c232, c233, c234, c235, c236, c237, c238, c239, c240, c241, c242, c243, c244, c245, c246, c247, c248, c249, c250, c251, c252, c253, c254, c255, c256, c257], []⟩ w := by
  have hn' : (n : Int) ≤ 1024 := by omega
  have hSl' : (S.length : Int) ≤ 4096 := by omega
  have HS : Hid (SeqsAt w a0 n q) := hS
  have HD : Hid (DeathsAt w dB n q) := hD
  have HB : Hid (Below B0 w0 w) := hbel
  have HT : Hid (SetsAt w sa S) := hT
  have HQ : Hid (∀ i, 0 ≤ q i ∧ q i < 8) := hq
  have HM : Hid (Small S) := hSm
  clear hS hD hbel hT hq hSm
  have hmm := @run_makeMap Yba.prog
  conv => arg 2; whnf
  unfold Ends
  go_wp2
  clear hmm
  go_loopw [140] (fun i wr => ∃ j : Nat, j ≤ S.length ∧ i = .int .i64 j ∧ Hid (wr.ownsMap Yba.prog 32 (plainElem Yba.prog 3) w.heap.size j (datum (S.take j)) ∧ Below w.heap.size w wr)) (fun i _ => S.length - (intOf i).toNat)
  case atStart => exact ⟨0, Nat.zero_le _, rfl, World.ownsMap_made _ _ _ _, (Below.refl _ _).alloc (Nat.le_refl _) _⟩
  case round =>
    obtain ⟨j, hj, rfl, HK⟩ := hrel
    by_cases hlt : j < S.length
    · have hlt' : (j : Int) < (S.length : Int) := by omega
      obtain ⟨p, hp⟩ : ∃ p, S[j]? = some p := ⟨S[j], List.getElem?_eq_getElem hlt⟩
      obtain ⟨g, rfl, hg, hcs⟩ := HT.out (by omega)
      obtain ⟨s0, s1⟩ := hcs j p hp
      have s0' : wr.cell? ⟨g, j * 2, none⟩ = some (.int .u64 p.1) := (HK.out.2.cell hg).trans s0
      have s1' : wr.cell? ⟨g, j * 2 + 1, none⟩ = some (.int .i64 p.2) := (HK.out.2.cell hg).trans s1
      obtain ⟨⟨k0, k8⟩, v0, v1⟩ := HM.out p (List.mem_of_getElem? hp)
      have HP : Hid (S[j]? = some p) := hp
      have wk := key_wf k0 k8
      have wv := val_wf v0 v1
      have hsz : w.heap.size ≤ wr.heap.size := HK.out.2.size
      clear hcs s0 s1 hp
      have HK1 := HK.out.1
      go_wp2_with (at_mapUpdate; refine wpList_mapUpdate_own _ rfl _ _ _ 44 rfl 32 3 law Yba.underlying44 _ w.heap.size j _ rfl (HK1.alloc _) (by unfold maxLen; omega) _ _ _ rfl rfl (keyOf_int_mk Yba.underlying32 wk) _ [] (plainElem_int Yba.underlying3 wv) ?_; intro w1 own1 grow1)
      have R : Hid (w1.ownsMap Yba.prog 32 (plainElem Yba.prog 3) w.heap.size (j + 1) (datum (S.take (j + 1))) ∧ Below w.heap.size w w1) :=
        ⟨map_step HP.out own1, Below.grown (HK.out.2.alloc hsz _) grow1 (by simp; omega) (fun x hx => by cases hx; exact Nat.le_refl _)⟩
      clear own1 grow1 HK1
      go_wp2
      go_roundw
      case rel => exact ⟨j + 1, by omega, by go_num, R⟩
      case measure => simp [intOf]; omega
    · have hge : ¬ (j : Int) < (S.length : Int) := by omega
      obtain rfl : j = S.length := by omega
      have hM : MapAt wr w.heap.size S := MapAt.of_own (by have h := HK.out.1; rw [List.take_length] at h; exact h)
      have b := HK.out.2
      go_upto_if 141 with fail
      iterate 6 go_step
      exact stageE (w := wr) q hn HQ.out hSl (Nat.le_trans hB b.size) (HB.out.trans (b.mono hB)) (HS.out.below b) (HD.out.below b) hM (HT.out.below b)
end Go.Proofs.Ybulkdfvk
