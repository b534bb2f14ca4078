/-
  The row of 'decimal.LawS5352CExact' over the walks (YbulkdfuwDoorWalks.lean), and the tied card: the table of the powers of ten is read off the row's condition; the witness starts in the heap that the door's own run leaves.
-/
import Derived.Test.YbulkdfuwDoorWalks
import Derived.Test.YbulkdfuwDoorTie
import Derived.Test.YbulkdfuwDoorCards
import Derived.ProofKit
import Derived.LaidMore
import Derived.OpenShut
import Derived.OpenVars
import Derived.Stop.Joined
import Derived.Lib.LaidTab
import Derived.SevenTiedAt
namespace Go.Proofs.YbulkdfuwDoor
open Go.ChangeShapes Go.WideShapes Go.ChangeAt Go.RowKit

theorem own : ownKnob Ybad.prog.godebug = none := by kernel_rfl
theorem laidOut : laidOutB Ybad.prog = true := by kernel_rfl
theorem cells2 : Ybad.prog.cellsOf 2 = 1 := by kernel_rfl
theorem cells26 : Ybad.prog.cellsOf 26 = 19 := by kernel_rfl

/-- The table's numbers. -/
def pows : List Int := [1, 10, 100, 1000, 10000, 100000, 1000000, 10000000, 100000000, 1000000000, 10000000000, 100000000000, 1000000000000, 10000000000000, 100000000000000, 1000000000000000, 10000000000000000, 100000000000000000, 1000000000000000000]
theorem pows_at : ∀ n : Fin 19, pows.getD n 0 = p10 n := by decide

/-- The door's own heap meets the row's condition. -/
theorem door_met (os : Os) (args : Array Value) : laidMetH Ybad.prog Rows.lawS5352CExactRow.laid ((World.doorLaid Ybad.prog 531 os).forCall (fun _ _ => 0) ⟨#[], args, []⟩).memory :=
  laidMetH_of_parts3 (fuel := 8) (laidMet_of_run' 8 (by kernel_rfl) (by kernel_rfl)) (by kernel_rfl) (by kernel_rfl)

/-- What the condition gives the walk: each cell of the table. -/
theorem of_laid {W : World} (h : laidMetH Ybad.prog Rows.lawS5352CExactRow.laid W) (n : Nat) (hn : n ≤ 18) : W.cell? ⟨0, n, none⟩ = some (.int .i64 (p10 n)) := by
  rw [MakeChecks.laidMetH_plain _ _ _ (by kernel_rfl)] at h
  have hT := Lib.tabIs_of_head (k := .i64) (zs := pows) (g := 0) (t := 26) (e := 2) (n := 19) (by kernel_rfl) (by kernel_rfl) Ybad.underlying26 Ybad.underlying2 cells2 cells26 h
  have := hT.cell (g := 0) (by kernel_rfl) n (by simp [pows]; omega)
  rw [this]
  exact congrArg (fun z => some (Value.int .i64 z)) (pows_at ⟨n, by omega⟩)

set_option maxRecDepth 100000 in
theorem lifted (os : Os) (started : os.Started) (H : Type) (enc : TypeId × Value → H) :
    ReturnsInHanded {} Ybad.checked os 3 .any (fun w args => (Rows.lawS5352CExactSpec.pre enc Ybad.prog Ybad.f3 [] false w args ∧ laidMetH Ybad.prog Rows.lawS5352CExactRow.laid w) ∧ sizedMet enc Ybad.prog Ybad.f3 (OpenSpec.ofChange Rows.lawS5352CExactSpec) false w args)
      (Rows.lawS5352CExactSpec.post enc Ybad.prog Ybad.f3 false true false false) := by
  refine returnsInHanded_of_change_and (C := Ybad.checked) (X := fun w _ => laidMetH Ybad.prog Rows.lawS5352CExactRow.laid w) (fun _ _ _ hh h => h.of_heap hh) own started (by kernel_rfl) Ybad.func3
    (ChangeSpec.witness_shaped (enc := enc) (C := Ybad.checked) (os := os) (X := fun w _ => laidMetH Ybad.prog Rows.lawS5352CExactRow.laid w) false (World.doorLaid Ybad.prog 531 os) #[.int .i64 0, .int .u8 0] 8 rfl (World.shaped_of_RefB (by kernel_rfl) (by kernel_rfl)) (by kernel_rfl) (by kernel_rfl) (by kernel_rfl) (door_met os _)) ?_
  intro W base args ds gs before hval0 hW _ _ hL _
  have hval : ∀ (j : Nat) t v, Ybad.f3.params[j]? = some t → args[j]? = some v → Value.okWide Ybad.prog W .any base t v := hval0
  have hW' := hW
  obtain ⟨p, q, hA0, hV0, rfl, hfz, hnd⟩ := hW
  have hA : DataW.TrodAll enc Ybad.prog W 0 (fun _ => true) true Ybad.f3.params.toList args.toList ds p := hA0
  have hV : DataW.TrodVars enc Ybad.prog W (fun _ => true) Rows.lawS5352CExactSpec.vars gs q := hV0
  rw [Ybad.params3] at hA hval
  obtain ⟨v0, vs0, d0, ds0, p0, q0, hargs, rfl, rfl, h0, r0⟩ := trodAll_cons hA
  obtain ⟨v1, vs1, d1, ds1, p1, q1, rfl, rfl, rfl, h1, r1⟩ := trodAll_cons r0
  obtain ⟨rfl, rfl, rfl⟩ := trodAll_nil r1
  obtain rfl : args = #[v0, v1] := by cases args; simp_all
  obtain ⟨a0, rfl, rfl, rfl, w0⟩ := open_int Ybad.underlying2 (hval 0 2 v0 rfl rfl) h0
  obtain ⟨a1, rfl, rfl, rfl, w1⟩ := open_int Ybad.underlying5 (hval 1 5 v1 rfl rfl) h1
  clear hA0 hV0 hval0
  have hvb := Below.trodVars laidOut (Below.refl W.heap.size W) (by kernel_rfl) hV
  have b0 := bounds_i64 w0
  have b1 := bounds_u8 w1
  obtain ⟨g1, rfl⟩ : ∃ g1, gs = [g1] := by
    obtain ⟨_, _, _, _, d, _, e, _⟩ := trodVars_one hV
    exact ⟨d, e⟩
  obtain ⟨n, hn⟩ : ∃ n : Nat, a1 % 24 = n := Int.eq_ofNat_of_zero_le (by omega)
  have fin : ∀ (e : Ending) (W' : World), e = .returned (.bool true) ∧ W' = W → ∃ v, e = .returned v ∧ Rows.lawS5352CExactSpec.post enc Ybad.prog Ybad.f3 false true false false W #[.int .i64 a0, .int .u8 a1] v W' := by
    rintro e W' ⟨rfl, rfl⟩
    exact ⟨_, rfl, _, _, _, [], _, _, hW', trodAll_mk1 (shut_bool Ybad.underlying4 _), (trodAll_cons_mk (shut_int Ybad.underlying2 w0) (trodAll_cons_mk (shut_int Ybad.underlying5 w1) trodAll_mk0)), hvb, World.keptBut_refl _ _, fun h => by cases h⟩
  by_cases h18 : n ≤ 18
  · exact (law_in a0 a1 n W b0.1 b0.2 b1.1 b1.2 hn h18 (of_laid hL n h18)).mono fun e W' h => fin e W' h
  · exact (law_out a0 a1 n W b1.1 b1.2 hn (by omega)).mono fun e W' h => fin e W' h

/-- The bare row. -/
theorem row_holds : Rows.LawS5352CExactSaid :=
  OpenClaim.holds_of_wide 3 Ybad.f3 rfl rfl rfl rfl rfl rfl rfl ⟨rfl, rfl, rfl, rfl, rfl⟩ rfl rfl rfl rfl rfl (by kernel_rfl) Ybad.func3 (by kernel_rfl)
    (of_decide_eq_true (by kernel_rfl)) (by unfold Func.isWrapper; first | (rw [if_pos (by decide +kernel)]; kernel_rfl) | (rw [if_neg (by decide +kernel)]; exact ⟨rfl, rfl⟩))
    (fun os started H enc _ => lifted os started H enc)

/-- THE STATEMENT: the tied card. -/
theorem proved : Rows.LawS5352CExactCardSaid :=
  Claim7.holds_tied_plain_at .later [] [.called] true Rows.lawS5352CExactCard.stood.harness false
    row_holds (fun _ h => by cases h) (by kernel_rfl) (fun _ h => by cases h) lawS5352CExact_row_tie rfl ⟨rfl, rfl⟩ (by kernel_rfl) rfl
    (fun f fn hf hfn => by
      obtain rfl : f = 3 := Option.some.inj ((show Ybad.prog.funcNamed Rows.lawS5352CExactRow.func = some 3 by kernel_rfl).symm.trans hf) |>.symm
      obtain rfl : fn = Ybad.f3 := (Option.some.inj (Ybad.func3.symm.trans hfn)).symm
      exact ⟨by kernel_rfl, fun j t ht => by
        rw [Ybad.params3] at ht
        have hm : t ∈ [2, 5] := by simpa using Array.mem_of_getElem? ht
        have hall : ([2, 5].all fun u => !Ybad.prog.wantsStandIn u) = true := by kernel_rfl
        exact (show Ybad.prog.wantsStandIn t = false by simpa using List.all_eq_true.1 hall t hm)⟩)
    (by kernel_rfl)
#print axioms proved
end Go.Proofs.YbulkdfuwDoor
