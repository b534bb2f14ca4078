/-
  LawS5353CMatchesModel, from its last loop on.
-/
import Derived.Test.YbulkdfvkDead
import Derived.Test.YbulkdfvkTime
import Derived.Deep.RegionHeld3
import Derived.Laws.Pointers
import Derived.StillTactics
import Derived.Deep.DeepCutAuto
namespace Go.Proofs.Ybulkdfvk
open Go.RowKit Go.Maps

/-- The function's text from its k-th statement on. -/
def restAfter : Nat → Code → Code
  | 0, c => c
  | k + 1, .seq _ b => restAfter k b
  | _, c => c
def codeOf (f : Func) (k : Nat) : Code := restAfter k (f.body.getD .skip)

/-- What is asked of the whole call. -/
def Ends (B0 : Nat) (w0 : World) : Exit → Act → World → Prop := bodyPost Yba.prog Yba.f4 fun e w' => e = .returned (.bool true) ∧ Below B0 w0 w'

/-- The tasks' numbers as they lie in the first argument. -/
def SeqsAt (w : World) (a0 : Option Addr) (n : Nat) (q : Nat → Int) : Prop :=
  0 < n → ∃ b off, a0 = some ⟨b, off, none⟩ ∧ b < w.heap.size ∧ ∀ i, i < n → ∃ z, w.cell? ⟨b, off + i, none⟩ = some (.int .u8 z) ∧ 0 ≤ z ∧ z ≤ 255 ∧ q i = z % 8
theorem SeqsAt.below {w w' : World} {a0 : Option Addr} {n : Nat} {q : Nat → Int} (h : SeqsAt w a0 n q) (hb : Below w.heap.size w w') : SeqsAt w' a0 n q := fun hn => by
  obtain ⟨b, off, e, hlt, hc⟩ := h hn
  refine ⟨b, off, e, Nat.lt_of_lt_of_le hlt hb.size, fun i hi => ?_⟩
  obtain ⟨z, h1, h2⟩ := hc i hi
  exact ⟨z, (hb.cell hlt).trans h1, h2⟩

/-- Two nil pointers are one. -/
theorem eq_nil (W : World) : (Op.equalIn 9999 34 (.pointer none) (.pointer none)).run Yba.prog W = .ok true W := by kernel_rfl

set_option maxHeartbeats 2000000 in
set_option maxRecDepth 100000 in
theorem stageH {c1 c2 c3 c4 c5 c6 c7 c8 c10 c11 c12 c13 c14 c15 c16 c17 c18 c20 c21 c22 c23 c24 c25 c26 c27 c28 c29 c30 c31 c32 c33 c34 c35 c36 c37 c38 c39 c40 c41 c42 c43 c44 c45 c46 c47 c48 c49 c50 c51 c52 c53 c54 c55 c56 c57 c58 c59 c60 c61 c62 c63 c64 c65 c66 c67 c68 c69 c70 c71 c72 c73 c74 c75 c76 c77 c78 c79 c80 c81 c82 c83 c84 c85 c86 c87 c88 c89 c90 c91 c92 c93 c94 c95 c96 c97 c98 c99 c100 c101 c102 c103 c104 c105 c106 c107 c108 c109 c110 c111 c112 c113 c114 c115 c116 c117 c118 c119 c120 c121 c122 c123 c124 c125 c126 c127 c128 c129 c130 c131 c132 c133 c134 c135 c136 c137 c138 c139 c140 c141 c142 c143 c144 c145 c146 c147 c148 c149 c150 c151 c152 c153 c154 c155 c156 c157 c158 c159 c160 c161 c162 c163 c164 c165 c166 c167 c168 c169 c170 c171 c172 c173 c174 c175 c176 c177 c178 c179 c180 c181 c182 c183 c184 c185 c186 c187 c188 c189 c190 c191 c192 c193 c194 c195 c196 c197 c198 c199 c200 c201 c202 c203 c204 c205 c206 c207 c208 c209 c210 c211 c212 c213 c214 c215 c216 c217 c218 c219 c220 c221 c222 c223 c224 c225 c226 c227 c228 c229 c230 c231 c232 c233 c234 c235 c236 c237 c238 c239 c240 c241 c242 c243 c244 c245 c246 c247 c248 c249 c250 c251 c252 c253 c254 c255 c256 c257 : Value} {a0 : Option Addr} {n c rB dB B0 : Nat} {w0 w : World} (q : Nat → Int) (hn : n ≤ 1024) (hB : B0 ≤ w.heap.size) (hbel : Below B0 w0 w) (hS : SeqsAt w a0 n q) (hrB : rB < w.heap.size)
    (hr8 : w.cell? ⟨rB, 8, none⟩ = some (.slice (some ⟨dB, 0, none⟩) n n)) (hD : DeathsAt w dB n q) :
    Code.wp Yba.prog (codeOf Yba.f4 16) (Ends B0 w0) ⟨#[.slice a0 n c, c1, c2, c3, c4, c5, c6, c7, c8, .int .i64 n, c10, c11, c12, c13, c14, c15, c16, c17, c18, .pointer (some ⟨rB, 0, none⟩), c20, c21, c22, c23, c24, c25, c26, c27, c28, c29, c30, c31, c32, c33, c34, c35, c36, c37, c38, c39, c40, c41, c42, c43, c44, c45, c46, c47, c48, c49, c50, c51, c52, c53, c54, c55, c56, c57, c58, c59, c60, c61, c62, c63, c64, c65, c66, c67, c68, c69, c70, c71, c72, c73, c74, c75, c76, c77, c78, c79, c80, c81, c82, c83, c84, c85, c86, c87, c88, c89, c90, c91, c92, c93, c94, c95, c96, c97, c98, c99, c100, c101, c102, c103, c104, c105, c106, c107, c108, c109, c110, c111, c112, c113, c114, c115, c116, c117, c118, c119, c120, c121, c122, c123, c124, c125, c126, c127, c128, c129, c130, c131, c132, c133, c134, c135, c136, c137, c138, c139, c140, c141, c142, c143, c144, c145, c146, c147, c148, c149, c150, c151, c152, c153, c154, c155, c156, c157, c158, c159, c160, c161, c162, c163, c164, c165, c166, c167, c168, c169, c170, c171, c172, c173, c174, c175, c176, c177, c178, c179, c180, c181, c182, c183, c184, c185, c186, c187, c188, c189, c190, c191, c192, c193, c194, c195, c196, c197, c198, c199, c200, c201, c202, c203, c204, c205, c206, c207, c208, c209, c210, c211, c212, c213, c214, c215, c216, c217, c218, c219, c220, c221, c222, c223, c224, c225, c226, c227, c228, c229, c230, c231, c232, c233, c234, c235, c236, c237, c238, c239, c240, c241, c242, c243, c244, c245, c246, c247, c248, c249, c250, c251, c252, c253, c254, c255, c256, c257], []⟩ w := by
  have hn' : (n : Int) ≤ 1024 := by omega
  have HS : Hid (SeqsAt w a0 n q) := hS
  have HD : Hid (DeathsAt w dB n q) := hD
  have HB : Hid (Below B0 w0 w) := hbel
  clear hS hD hbel
  conv => arg 2; whnf
  unfold Ends
  go_wp2
  go_loopw [29] (fun i wr => ∃ k : Nat, k ≤ n ∧ i = .int .i64 k ∧ Hid (Below w.heap.size w wr)) (fun i _ => n - (intOf i).toNat)
  case atStart => exact ⟨0, Nat.zero_le _, rfl, Below.refl _ _⟩
  case round =>
    obtain ⟨k, hk, rfl, BG⟩ := hrel
    by_cases hlt : k < n
    · have hlt' : (k : Int) < (n : Int) := by omega
      obtain ⟨b, off, rfl, hb, hc⟩ := HS.out (by omega)
      obtain ⟨z, hcz, hz0, hz1, hqz⟩ := hc k hlt
      obtain ⟨d0, d1, d2, d3, d4⟩ := (HD.out.below BG.out).2 k hlt
      have hcz' : wr.cell? ⟨b, off + k, none⟩ = some (.int .u8 z) := (BG.out.cell hb).trans hcz
      have hr8' : wr.cell? ⟨rB, 8, none⟩ = some (.slice (some ⟨dB, 0, none⟩) n n) := (BG.out.cell hrB).trans hr8
      have lb : b < wr.heap.size := Nat.lt_of_lt_of_le hb BG.out.size
      have lr : rB < wr.heap.size := Nat.lt_of_lt_of_le hrB BG.out.size
      have ld : dB < wr.heap.size := (HD.out.below BG.out).1
      obtain ⟨y, hy⟩ : ∃ y, y = q k := ⟨_, rfl⟩
      rw [← hy] at d0 hqz
      have hy1 : z.tmod 8 = y := by rw [hqz, Int.tmod_eq_emod_of_nonneg hz0]
      have hy2 : IntKind.u64.wrap y = y := by rw [IntKind.wrap_u64]; omega
      clear hc hcz hqz d1 hy
      have hk1024 : k ≤ 1024 := by omega
      have hen := eq_nil
      go_upto_region 61 with fail
      go_region_held3 (fun w' => w'.cell? ⟨rB, 8, none⟩ = some (.slice (some ⟨dB, 0, none⟩) n n) ∧ w'.cell? ⟨dB, k * 5, none⟩ = some (.int .u64 y) ∧ w'.cell? ⟨dB, k * 5 + 2, none⟩ = some (.int .u64 k) ∧ w'.cell? ⟨dB, k * 5 + 3, none⟩ = some (.int .i64 0) ∧ w'.cell? ⟨dB, k * 5 + 4, none⟩ = some (.pointer none) ∧ w'.cell? ⟨b, off + k, none⟩ = some (.int .u8 z))
        (simp [go_sem, *])
        ((go_at_call 6; refine (time_add k _ hk1024).mono ?_; rintro e w' ⟨rfl, x1, x2, rfl⟩))
      go_wp2
      go_roundw
      case rel => first | exact ⟨k + 1, by omega, by go_num, ((BG.out.alloc BG.out.size _).alloc (by have := BG.out.size; simp; omega) _).drew⟩ | ((repeat apply Exists.intro); exact ⟨⟨k + 1, by omega, by go_num, ((BG.out.alloc BG.out.size _).alloc (by have := BG.out.size; simp; omega) _).drew⟩, rfl⟩)
      case measure => simp [intOf]; omega
    · go_wp2
      go_ret
      exact ⟨rfl, HB.out.trans (BG.out.mono hB)⟩
end Go.Proofs.Ybulkdfvk
