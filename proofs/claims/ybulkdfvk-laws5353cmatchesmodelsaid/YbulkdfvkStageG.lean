/-
  LawS5353CMatchesModel, from the comparison of what was got with what was wanted on.
-/
import Derived.Test.YbulkdfvkStageH
namespace Go.Proofs.Ybulkdfvk
open Go.RowKit Go.Maps

/-- What 'deadLetters' handed back. -/
def GotAt (w : World) (ga : Option Addr) (P : List Nat) (q : Nat → Int) : Prop :=
  0 < P.length → ∃ g, ga = some ⟨g, 0, none⟩ ∧ g < w.heap.size ∧ ∀ (t i : Nat), P[t]? = some i → w.cell? ⟨g, t * 5, none⟩ = some (.int .u64 (q i)) ∧ w.cell? ⟨g, t * 5 + 1, none⟩ = some (.string rS) ∧ w.cell? ⟨g, t * 5 + 2, none⟩ = some (.int .u64 i) ∧ w.cell? ⟨g, t * 5 + 3, none⟩ = some (.int .i64 0) ∧ w.cell? ⟨g, t * 5 + 4, none⟩ = some (.pointer none)
theorem GotAt.below {w w' : World} {ga : Option Addr} {P : List Nat} {q : Nat → Int} (h : GotAt w ga P q) (hb : Below w.heap.size w w') : GotAt w' ga P q := fun hn => by
  obtain ⟨g, e, hlt, hc⟩ := h hn
  refine ⟨g, e, Nat.lt_of_lt_of_le hlt hb.size, fun t i hi => ?_⟩
  obtain ⟨h0, h1, h2, h3, h4⟩ := hc t i hi
  exact ⟨(hb.cell hlt).trans h0, (hb.cell hlt).trans h1, (hb.cell hlt).trans h2, (hb.cell hlt).trans h3, (hb.cell hlt).trans h4⟩
theorem GotAt.of_own {w : World} {B : Nat} {v : Value} {P : List Nat} {q : Nat → Int} (h : w.ownsRow B 39 5 v P.length (P.flatMap (D5 q))) : ∃ ga gc, v = .slice ga P.length gc ∧ GotAt w ga P q := by
  rcases h.2 with ⟨hv, h0⟩ | ⟨g, cap, cur, hv, _⟩
  · exact ⟨none, 0, by rw [hv, h0], fun hp => by omega⟩
  · subst hv
    refine ⟨some ⟨g, 0, none⟩, cap, rfl, fun _ => ⟨g, rfl, (h.lt g rfl).2, fun t i hi => ?_⟩⟩
    have ht : t < P.length := (List.getElem?_eq_some_iff.1 hi).1
    refine ⟨?_, ?_, ?_, ?_, ?_⟩
    · rw [h.cellAt (t * 5) (by omega)]; exact flat_at q _ t i 0 hi (by omega)
    · rw [h.cellAt (t * 5 + 1) (by omega)]; exact flat_at q _ t i 1 hi (by omega)
    · rw [h.cellAt (t * 5 + 2) (by omega)]; exact flat_at q _ t i 2 hi (by omega)
    · rw [h.cellAt (t * 5 + 3) (by omega)]; exact flat_at q _ t i 3 hi (by omega)
    · rw [h.cellAt (t * 5 + 4) (by omega)]; exact flat_at q _ t i 4 hi (by omega)
/-- What was wanted. -/
def WantAt (w : World) (wa : Option Addr) (P : List Nat) : Prop :=
  0 < P.length → ∃ g, wa = some ⟨g, 0, none⟩ ∧ ∀ (t i : Nat), P[t]? = some i → w.cell? ⟨g, t, none⟩ = some (.int .i64 i)
theorem WantAt.of_own {w : World} {B : Nat} {v : Value} {P : List Nat} (h : w.ownsRow B 3 1 v P.length (P.map fun i : Nat => Value.int .i64 (i : Int))) : ∃ wa wc, v = .slice wa P.length wc ∧ WantAt w wa P := by
  rcases h.2 with ⟨hv, h0⟩ | ⟨g, cap, cur, hv, _⟩
  · exact ⟨none, 0, by rw [hv, h0], fun hp => by omega⟩
  · subst hv
    refine ⟨some ⟨g, 0, none⟩, cap, rfl, fun _ => ⟨g, rfl, fun t i hi => ?_⟩⟩
    have ht : t < P.length := (List.getElem?_eq_some_iff.1 hi).1
    rw [h.cellAt t (by omega), List.getElem?_map, hi]
    rfl

theorem eq_nil8 (W : World) : (Op.equalIn 9998 34 (.pointer none) (.pointer none)).run Yba.prog W = .ok true W := by kernel_rfl

set_option maxHeartbeats 2000000 in
set_option maxRecDepth 100000 in
theorem stageG {c1 c2 c3 c4 c5 c6 c7 c8 c11 c12 c13 c14 c15 c16 c17 c18 c22 c23 c24 c25 c26 c27 c28 c29 c30 c31 c32 c33 c34 c35 c36 c37 c38 c39 c40 c41 c42 c43 c44 c45 c46 c47 c48 c49 c50 c51 c52 c53 c54 c55 c56 c57 c58 c59 c60 c61 c62 c63 c64 c65 c66 c67 c68 c69 c70 c71 c72 c73 c74 c75 c76 c77 c78 c79 c80 c81 c82 c83 c84 c85 c86 c87 c88 c89 c90 c91 c92 c93 c94 c95 c96 c97 c98 c99 c100 c101 c102 c103 c104 c105 c106 c107 c108 c109 c110 c111 c112 c113 c114 c115 c116 c117 c118 c119 c120 c121 c122 c123 c124 c125 c126 c127 c128 c129 c130 c131 c132 c133 c134 c135 c136 c137 c138 c139 c140 c141 c142 c143 c144 c145 c146 c147 c148 c149 c150 c151 c152 c153 c154 c155 c156 c157 c158 c159 c160 c161 c162 c163 c164 c165 c166 c167 c168 c169 c170 c171 c172 c173 c174 c175 c176 c177 c178 c179 c180 c181 c182 c183 c184 c185 c186 c187 c188 c189 c190 c191 c192 c193 c194 c195 c196 c197 c198 c199 c200 c201 c202 c203 c204 c205 c206 c207 c208 c209 c210 c211 c212 c213 c214 c215 c216 c217 c218 c219 c220 c221 c222 c223 c224 c225 c226 c227 c228 c229 c230 c231 c232 c233 c234 c235 c236 c237 c238 c239 c240 c241 c242 c243 c244 c245 c246 c247 c248 c249 c250 c251 c252 c253 c254 c255 c256 c257 : Value} {a0 ga wa : Option Addr} {n c gc wc rB dB B0 : Nat} {P : List Nat} {w0 w : World} (q : Nat → Int) (hn : n ≤ 1024) (hB : B0 ≤ w.heap.size) (hbel : Below B0 w0 w) (hS : SeqsAt w a0 n q) (hrB : rB < w.heap.size)
    (hr8 : w.cell? ⟨rB, 8, none⟩ = some (.slice (some ⟨dB, 0, none⟩) n n)) (hD : DeathsAt w dB n q) (hG : GotAt w ga P q) (hW : WantAt w wa P) (hP : ∀ i ∈ P, i < n) (hPl : P.length ≤ n) :
    Code.wp Yba.prog (codeOf Yba.f4 14) (Ends B0 w0) ⟨#[.slice a0 n c, c1, c2, c3, c4, c5, c6, c7, c8, .int .i64 n, .slice (some ⟨dB, 0, none⟩) n n, c11, c12, c13, c14, c15, c16, c17, c18, .pointer (some ⟨rB, 0, none⟩), .slice ga P.length gc, .slice wa P.length wc, c22, c23, c24, c25, c26, c27, c28, c29, c30, c31, c32, c33, c34, c35, c36, c37, c38, c39, c40, c41, c42, c43, c44, c45, c46, c47, c48, c49, c50, c51, c52, c53, c54, c55, c56, c57, c58, c59, c60, c61, c62, c63, c64, c65, c66, c67, c68, c69, c70, c71, c72, c73, c74, c75, c76, c77, c78, c79, c80, c81, c82, c83, c84, c85, c86, c87, c88, c89, c90, c91, c92, c93, c94, c95, c96, c97, c98, c99, c100, c101, c102, c103, c104, c105, c106, c107, c108, c109, c110, c111, c112, c113, c114, c115, c116, c117, c118, c119, c120, c121, c122, c123, c124, c125, c126, c127, c128, c129, c130, c131, c132, c133, c134, c135, c136, c137, c138, c139, c140, c141, c142, c143, c144, c145, c146, c147, c148, c149, c150, c151, c152, c153, c154, c155, c156, c157, c158, c159, c160, c161, c162, c163, c164, c165, c166, c167, c168, c169, c170, c171, c172, c173, c174, c175, c176, c177, c178, c179, c180, c181, c182, c183, c184, c185, c186, c187, c188, c189, c190, c191, c192, c193, c194, c195, c196, c197, c198, c199, c200, c201, c202, c203, c204, c205, c206, c207, c208, c209, c210, c211, c212, c213, c214, c215, c216, c217, c218, c219, c220, c221, c222, c223, c224, c225, c226, c227, c228, c229, c230, c231, c232, c233, c234, c235, c236, c237, c238, c239, c240, c241, c242, c243, c244, c245, c246, c247, c248, c249, c250, c251, c252, c253, c254, c255, c256, c257], []⟩ w := by
  have hn' : (n : Int) ≤ 1024 := by omega
  have hPl' : (P.length : Int) ≤ 1024 := by omega
  have HS : Hid (SeqsAt w a0 n q) := hS
  have HD : Hid (DeathsAt w dB n q) := hD
  have HB : Hid (Below B0 w0 w) := hbel
  have HG : Hid (GotAt w ga P q) := hG
  have HW : Hid (WantAt w wa P) := hW
  have HP : Hid (∀ i ∈ P, i < n) := hP
  clear hS hD hbel hG hW hP
  conv => arg 2; whnf
  unfold Ends
  go_wp2
  go_loopw [202] (fun i wr => ∃ t : Nat, t ≤ P.length ∧ i = .int .i64 t ∧ ∃ nn : Nat, wr = w.drewN nn) (fun i _ => P.length - (intOf i).toNat)
  case atStart => exact ⟨0, Nat.zero_le _, rfl, 0, rfl⟩
  case round =>
    obtain ⟨t, ht, rfl, nn, rfl⟩ := hrel
    by_cases hlt : t < P.length
    · have hlt' : (t : Int) < (P.length : Int) := by omega
      obtain ⟨g, rfl, hg, hgc⟩ := HG.out (by omega)
      obtain ⟨g2, rfl, hwc⟩ := HW.out (by omega)
      obtain ⟨i, hi⟩ : ∃ i, P[t]? = some i := ⟨P[t], List.getElem?_eq_getElem hlt⟩
      have hin : i < n := HP.out i (List.mem_of_getElem? hi)
      have hin' : (i : Int) < (n : Int) := by omega
      have hc := hwc t i hi
      obtain ⟨g0, g1, g2', g3, g4⟩ := hgc t i hi
      obtain ⟨d0, d1, d2, d3, d4⟩ := HD.out.2 i hin
      obtain ⟨y, hy⟩ : ∃ y, y = q i := ⟨_, rfl⟩
      rw [← hy] at d0 g0
      clear hwc hgc hi hy
      have hen := eq_nil
      have hen8 := eq_nil8
      go_upto_region 53 with fail
      go_quiet (fail)
      go_wp2
      go_roundw
      case rel => exact ⟨t + 1, by omega, by go_num, nn + nq, rfl⟩
      case measure => simp [intOf]; omega
    · have hge : ¬ (t : Int) < (P.length : Int) := by omega
      go_upto_if 203 with fail
      iterate 6 go_step
      exact stageH (w := w.drewN nn) q hn hB (below_drewN HB.out nn) HS.out hrB hr8 HD.out
end Go.Proofs.Ybulkdfvk
