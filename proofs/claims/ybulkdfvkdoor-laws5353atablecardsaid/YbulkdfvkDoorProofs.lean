/-
  The row of 'broker.LawS5353ATable' over its walk (YbulkdfvkDoorWalks.lean), and the tied card: the listed slice of reasons is opened off the row's condition; the witness starts in the heap that the door's own run leaves.
-/
import Derived.Test.YbulkdfvkDoorWalks
import Derived.Test.YbulkdfvkDoorTie
import Derived.Test.YbulkdfvkDoorCards
import Derived.ProofKit
import Derived.LaidMore
import Derived.OpenShut
import Derived.OpenVars
import Derived.Stop.Joined
import Derived.SevenTiedAt
namespace Go.Proofs.YbulkdfvkDoor
open Go.ChangeShapes Go.WideShapes Go.ChangeAt Go.RowKit

theorem own : ownKnob Ybad.prog.godebug = none := by kernel_rfl
theorem laidOut : laidOutB Ybad.prog = true := by kernel_rfl
theorem cells23 : Ybad.prog.cellsOf 23 = 1 := by kernel_rfl

/-- The door's own heap meets the row's condition. -/
theorem door_met (os : Os) (args : Array Value) : laidMetH Ybad.prog Rows.lawS5353ATableRow.laid ((World.doorLaid Ybad.prog 14 os).forCall (fun _ _ => 0) ⟨#[], args, []⟩).memory :=
  laidMetH_of_parts3 (fuel := 8) (laidMet_of_run' 8 (by kernel_rfl) (by kernel_rfl)) (by kernel_rfl) (by kernel_rfl)

theorem string_of {W : World} {n : Nat} {v : Value} {sp : Nat → Bool} {held : Bool} {l : List UInt8} {q : List MemPlace} (h : DataW.trod (H := Unit) (fun _ => ()) Ybad.prog W 0 sp held n 23 [v] = some (.lit (.string l), q)) : v = .string ⟨l.toArray⟩ := by
  obtain ⟨s, e1, e2, _⟩ := DataW.trod_string Ybad.underlying23 h
  simp only [Prod.mk.injEq, DataW.lit.injEq, Lit.string.injEq] at e2
  obtain ⟨rfl, _⟩ := e2
  simpa using e1

/-- What the condition gives the walk: the slice's header and three of its cells. -/
theorem of_laid {W : World} (h : laidMetH Ybad.prog Rows.lawS5353ATableRow.laid W) : ∃ b off cap, W.cell? ⟨0, 0, none⟩ = some (.slice (some ⟨b, off, none⟩) 4 cap) ∧
    W.cell? ⟨b, off + 1, none⟩ = some (.string s1) ∧ W.cell? ⟨b, off + 2, none⟩ = some (.string s2) ∧ W.cell? ⟨b, off + 3, none⟩ = some (.string s3) := by
  rw [MakeChecks.laidMetH_plain _ _ _ (by kernel_rfl)] at h
  obtain ⟨ps, ⟨g0, t0, cs0, f0, p0, q0, hg0, ht0, hv0, hd0, _, _⟩, _, _⟩ := h
  obtain rfl : 0 = g0 := Option.some.inj (Eq.trans (by kernel_rfl) hg0)
  obtain rfl : 27 = t0 := Option.some.inj (Eq.trans (by kernel_rfl) ht0)
  obtain ⟨a, cap, hcs, _, hel⟩ := open_row Ybad.underlying27 cells23 hd0
  obtain ⟨v0, n0, q0, e0, r0⟩ := hel 0 _ rfl
  obtain ⟨v1, n1, q1, e1, r1⟩ := hel 1 _ rfl
  obtain ⟨v2, n2, q2, e2, r2⟩ := hel 2 _ rfl
  obtain ⟨v3, n3, q3, e3, r3⟩ := hel 3 _ rfl
  obtain rfl := string_of r1
  obtain rfl := string_of r2
  obtain rfl := string_of r3
  obtain ⟨b, off, spot⟩ := a
  have hspot : spot = none := by simpa [Addr.add] using World.cell?_spot e0
  subst hspot
  have hcell : W.cell? ⟨0, 0, none⟩ = some (.slice (some ⟨b, off, none⟩) 4 cap) := by
    have := World.var?_cell hg0 hv0 0
    rw [Array.eq_one_of_toList hcs] at this
    simpa using this
  exact ⟨b, off, cap, hcell, by simpa [Addr.add] using e1, by simpa [Addr.add] using e2, by simpa [Addr.add] using e3⟩

set_option maxRecDepth 100000 in
theorem lifted (os : Os) (started : os.Started) (H : Type) (enc : TypeId × Value → H) :
    ReturnsInHanded {} Ybad.checked os 3 .any (fun w args => (Rows.lawS5353ATableSpec.pre enc Ybad.prog Ybad.f3 [] false w args ∧ laidMetH Ybad.prog Rows.lawS5353ATableRow.laid w) ∧ sizedMet enc Ybad.prog Ybad.f3 (OpenSpec.ofChange Rows.lawS5353ATableSpec) false w args)
      (Rows.lawS5353ATableSpec.post enc Ybad.prog Ybad.f3 false true false false) := by
  refine returnsInHanded_of_change_and (C := Ybad.checked) (X := fun w _ => laidMetH Ybad.prog Rows.lawS5353ATableRow.laid w) (fun _ _ _ hh h => h.of_heap hh) own started (by kernel_rfl) Ybad.func3
    (ChangeSpec.witness_shaped (enc := enc) (C := Ybad.checked) (os := os) (X := fun w _ => laidMetH Ybad.prog Rows.lawS5353ATableRow.laid w) false (World.doorLaid Ybad.prog 14 os) #[.int .u64 0] 8 rfl (World.shaped_of_RefB (by kernel_rfl) (by kernel_rfl)) (by kernel_rfl) (by kernel_rfl) (by kernel_rfl) (door_met os _)) ?_
  intro W base args ds gs before hval0 hW _ _ hL _
  have hval : ∀ (j : Nat) t v, Ybad.f3.params[j]? = some t → args[j]? = some v → Value.okWide Ybad.prog W .any base t v := hval0
  have hW' := hW
  obtain ⟨p, q, hA0, hV0, rfl, hfz, hnd⟩ := hW
  have hA : DataW.TrodAll enc Ybad.prog W 0 (fun _ => true) true Ybad.f3.params.toList args.toList ds p := hA0
  have hV : DataW.TrodVars enc Ybad.prog W (fun _ => true) Rows.lawS5353ATableSpec.vars gs q := hV0
  rw [Ybad.params3] at hA hval
  obtain ⟨v0, vs0, d0, ds0, p0, q0, hargs, rfl, rfl, h0, r0⟩ := trodAll_cons hA
  obtain ⟨rfl, rfl, rfl⟩ := trodAll_nil r0
  obtain rfl : args = #[v0] := by cases args; simp_all
  obtain ⟨a0, rfl, rfl, rfl, w0⟩ := open_int Ybad.underlying22 (hval 0 22 v0 rfl rfl) h0
  clear hA0 hV0 hval0
  have hvb := Below.trodVars laidOut (Below.refl W.heap.size W) (by kernel_rfl) hV
  have b0 := bounds_u64 w0
  obtain ⟨g1, rfl⟩ : ∃ g1, gs = [g1] := by
    obtain ⟨_, _, _, _, d, _, e, _⟩ := trodVars_one hV
    exact ⟨d, e⟩
  obtain ⟨b, off, cap, hc, c1, c2, c3⟩ := of_laid hL
  refine (walk a0 W b0.1 b off cap hc c1 c2 c3).mono ?_
  rintro e W' ⟨rfl, rfl⟩
  exact ⟨_, rfl, _, _, _, [], _, _, hW', trodAll_mk1 (shut_bool Ybad.underlying4 _), (trodAll_cons_mk (shut_int Ybad.underlying22 w0) trodAll_mk0), hvb, World.keptBut_refl _ _, fun h => by cases h⟩

/-- The bare row. -/
theorem row_holds : Rows.LawS5353ATableSaid :=
  OpenClaim.holds_of_wide 3 Ybad.f3 rfl rfl rfl rfl rfl rfl rfl ⟨rfl, rfl, rfl, rfl, rfl⟩ rfl rfl rfl rfl rfl (by kernel_rfl) Ybad.func3 (by kernel_rfl)
    (of_decide_eq_true (by kernel_rfl)) (by unfold Func.isWrapper; first | (rw [if_pos (by decide +kernel)]; kernel_rfl) | (rw [if_neg (by decide +kernel)]; exact ⟨rfl, rfl⟩))
    (fun os started H enc _ => lifted os started H enc)

/-- THE STATEMENT: the tied card. -/
theorem proved : Rows.LawS5353ATableCardSaid :=
  Claim7.holds_tied_plain_at .later [] [.widerDeep] true Rows.lawS5353ATableCard.stood.harness false
    row_holds (fun _ h => by cases h) (by kernel_rfl) (fun _ h => by cases h) lawS5353ATable_row_tie rfl ⟨rfl, rfl⟩ (by kernel_rfl) rfl
    (fun f fn hf hfn => by
      obtain rfl : f = 3 := Option.some.inj ((show Ybad.prog.funcNamed Rows.lawS5353ATableRow.func = some 3 by kernel_rfl).symm.trans hf) |>.symm
      obtain rfl : fn = Ybad.f3 := (Option.some.inj (Ybad.func3.symm.trans hfn)).symm
      exact ⟨by kernel_rfl, fun j t ht => by
        rw [Ybad.params3] at ht
        have hm : t ∈ [22] := by simpa using Array.mem_of_getElem? ht
        have hall : ([22].all fun u => !Ybad.prog.wantsStandIn u) = true := by kernel_rfl
        exact (show Ybad.prog.wantsStandIn t = false by simpa using List.all_eq_true.1 hall t hm)⟩)
    (by kernel_rfl)
#print axioms proved
end Go.Proofs.YbulkdfvkDoor
