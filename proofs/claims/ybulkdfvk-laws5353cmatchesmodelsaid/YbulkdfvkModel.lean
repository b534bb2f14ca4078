/-
  What LawS5353CMatchesModel reckons with, as plain functions; how the deaths' row and the map lie in memory.
-/
import Derived.Test.YbulkdfvkRows
import Derived.WalkKit
import Derived.WalkSpells
import Derived.WalkLawsBesides
import Derived.ProofKit
import Derived.Laws.OwnMore
import Derived.Maps.OwnSet
namespace Go.Proofs.Ybulkdfvk
open Go.RowKit Go.Maps

/-- The last value that stands for a key. -/
def lastOf (S : List (Int × Int)) (k : Int) : Option Int := S.foldl (fun acc p => if p.1 = k then some p.2 else acc) none
theorem lastOf_nil (k : Int) : lastOf [] k = none := rfl
theorem lastOf_snoc (S : List (Int × Int)) (p : Int × Int) (k : Int) : lastOf (S ++ [p]) k = if p.1 = k then some p.2 else lastOf S k := by
  simp [lastOf, List.foldl_append]

/-- Is move i still the task's own? -/
def pk (S : List (Int × Int)) (q : Nat → Int) (i : Nat) : Bool := decide (lastOf S (q i) = some (i : Int))
def picks (S : List (Int × Int)) (q : Nat → Int) (k : Nat) : List Nat := (List.range k).filter (pk S q)
theorem picks_zero (S : List (Int × Int)) (q : Nat → Int) : picks S q 0 = [] := rfl
theorem picks_yes {S : List (Int × Int)} {q : Nat → Int} {k : Nat} (h : pk S q k = true) : picks S q (k + 1) = picks S q k ++ [k] := by
  simp [picks, List.range_succ, List.filter_append, h]
theorem picks_no {S : List (Int × Int)} {q : Nat → Int} {k : Nat} (h : pk S q k = false) : picks S q (k + 1) = picks S q k := by
  simp [picks, List.range_succ, List.filter_append, h]
theorem picks_le (S : List (Int × Int)) (q : Nat → Int) (k : Nat) : (picks S q k).length ≤ k := by
  have := List.length_filter_le (pk S q) (List.range k)
  simpa [picks] using this
theorem picks_lt {S : List (Int × Int)} {q : Nat → Int} {k i : Nat} (h : i ∈ picks S q k) : i < k := by
  simp [picks] at h
  exact h.1

/-- The one reason. -/
def rS : ByteArray := ⟨#[114]⟩
/-- One death's five cells. -/
def D5 (q : Nat → Int) (i : Nat) : List Value := [.int .u64 (q i), .string rS, .int .u64 i, .int .i64 0, .pointer none]
theorem D5_len (q : Nat → Int) (i : Nat) : (D5 q i).length = 5 := rfl
theorem flat_len (q : Nat → Int) (l : List Nat) : (l.flatMap (D5 q)).length = l.length * 5 := by
  induction l with
  | nil => rfl
  | cons a l ih => rw [List.flatMap_cons, List.length_append, ih, D5_len, List.length_cons]; omega
theorem flat_at (q : Nat → Int) : ∀ (l : List Nat) (t i j : Nat), l[t]? = some i → j < 5 → (l.flatMap (D5 q))[t * 5 + j]? = (D5 q i)[j]?
  | [], t, i, j, h, _ => by simp at h
  | a :: l, 0, i, j, h, hj => by
    simp at h
    subst h
    rw [List.flatMap_cons, List.getElem?_append_left (by rw [D5_len]; omega)]
    simp
  | a :: l, t + 1, i, j, h, hj => by
    rw [List.flatMap_cons, List.getElem?_append_right (by rw [D5_len]; omega), D5_len]
    have e : (t + 1) * 5 + j - 5 = t * 5 + j := by omega
    rw [e]
    exact flat_at q l t i j (by simpa using h) hj

/-- The deaths' row. -/
def DeathsAt (w : World) (dB n : Nat) (q : Nat → Int) : Prop :=
  dB < w.heap.size ∧ ∀ i, i < n → w.cell? ⟨dB, i * 5, none⟩ = some (.int .u64 (q i)) ∧ w.cell? ⟨dB, i * 5 + 1, none⟩ = some (.string rS) ∧ w.cell? ⟨dB, i * 5 + 2, none⟩ = some (.int .u64 i) ∧ w.cell? ⟨dB, i * 5 + 3, none⟩ = some (.int .i64 0) ∧ w.cell? ⟨dB, i * 5 + 4, none⟩ = some (.pointer none)
theorem DeathsAt.below {w w' : World} {dB n : Nat} {q : Nat → Int} (h : DeathsAt w dB n q) (hb : Below w.heap.size w w') : DeathsAt w' dB n q := by
  refine ⟨Nat.lt_of_lt_of_le h.1 hb.size, fun i hi => ?_⟩
  obtain ⟨h0, h1, h2, h3, h4⟩ := h.2 i hi
  exact ⟨(hb.cell h.1).trans h0, (hb.cell h.1).trans h1, (hb.cell h.1).trans h2, (hb.cell h.1).trans h3, (hb.cell h.1).trans h4⟩
/-- A slice that owns a list of deaths holds them, cell by cell. -/
theorem DeathsAt.of_own {w : World} {B g n cap : Nat} {q : Nat → Int} (h : w.ownsRow B 39 5 (.slice (some ⟨g, 0, none⟩) n cap) n ((List.range n).flatMap (D5 q))) : DeathsAt w g n q := by
  refine ⟨(h.lt g rfl).2, fun i hi => ?_⟩
  have hi' : (List.range n)[i]? = some i := by simp [hi]
  refine ⟨?_, ?_, ?_, ?_, ?_⟩
  · rw [h.cellAt (i * 5) (by omega)]; exact flat_at q _ i i 0 hi' (by omega)
  · rw [h.cellAt (i * 5 + 1) (by omega)]; exact flat_at q _ i i 1 hi' (by omega)
  · rw [h.cellAt (i * 5 + 2) (by omega)]; exact flat_at q _ i i 2 hi' (by omega)
  · rw [h.cellAt (i * 5 + 3) (by omega)]; exact flat_at q _ i i 3 hi' (by omega)
  · rw [h.cellAt (i * 5 + 4) (by omega)]; exact flat_at q _ i i 4 hi' (by omega)

/-- The map answers every key below 8 as the list's last entry does. -/
def MapAt (w : World) (mB : Nat) (S : List (Int × Int)) : Prop :=
  mB < w.heap.size ∧ ∀ (W : World) (key : Int), W.heap[mB]? = w.heap[mB]? → 0 ≤ key → key < 8 →
    (Instr.lookup 44 (.map (some mB)) (.int .u64 key) true).run Yba.prog W = .ok (.tuple #[.int .i64 ((lastOf S key).getD 0), .bool (lastOf S key).isSome]) W
theorem MapAt.below {w w' : World} {mB : Nat} {S : List (Int × Int)} (h : MapAt w mB S) (hb : Below w.heap.size w w') : MapAt w' mB S :=
  ⟨Nat.lt_of_lt_of_le h.1 hb.size, fun W key hW h0 h8 => h.2 W key (hW.trans (hb.block mB h.1)) h0 h8⟩

/-! ### the map as data -/
theorem law : Keyed Yba.prog 32 := int_keyed Yba.underlying32
theorem zeroE (w : World) : (zeroValue 3).run Yba.prog w = .ok (.int .i64 0) w := by kernel_rfl
theorem key_wf {key : Int} (h0 : 0 ≤ key) (h8 : key < 8) : (Lit.int .u64 key).wf = true := by
  have e1 : IntKind.u64.min = 0 := rfl
  have e2 : IntKind.u64.max = 18446744073709551615 := rfl
  simp only [Lit.wf, e1, e2, Bool.and_eq_true, decide_eq_true_eq]
  omega
theorem val_wf {v : Int} (h0 : -32768 ≤ v) (h1 : v ≤ 32767) : (Lit.int .i64 v).wf = true := by
  have e1 : IntKind.i64.min = -9223372036854775808 := rfl
  have e2 : IntKind.i64.max = 9223372036854775807 := rfl
  simp only [Lit.wf, e1, e2, Bool.and_eq_true, decide_eq_true_eq]
  omega
/-- The map's datum behind so many stores. -/
def datum (S : List (Int × Int)) : DataW Unit := S.foldl (fun m p => m.put (.int .u64 p.1) (.lit (.int .i64 p.2))) (.map [])
theorem datum_snoc (S : List (Int × Int)) (p : Int × Int) : datum (S ++ [p]) = (datum S).put (.int .u64 p.1) (.lit (.int .i64 p.2)) := by
  simp [datum, List.foldl_append]
theorem datum_fold (key : Int) : ∀ (S : List (Int × Int)) (m : DataW Unit) (acc : Option Int), IsMap m → Maps.has m (.int .u64 key) = acc.isSome → m.atKey (.int .u64 key) (.lit (.int .i64 0)) = .lit (.int .i64 (acc.getD 0)) →
    IsMap (S.foldl (fun m p => m.put (.int .u64 p.1) (.lit (.int .i64 p.2))) m) ∧
    Maps.has (S.foldl (fun m p => m.put (.int .u64 p.1) (.lit (.int .i64 p.2))) m) (.int .u64 key) = (S.foldl (fun acc p => if p.1 = key then some p.2 else acc) acc).isSome ∧
    (S.foldl (fun m p => m.put (.int .u64 p.1) (.lit (.int .i64 p.2))) m).atKey (.int .u64 key) (.lit (.int .i64 0)) = .lit (.int .i64 ((S.foldl (fun acc p => if p.1 = key then some p.2 else acc) acc).getD 0))
  | [], _, _, h1, h2, h3 => ⟨h1, h2, h3⟩
  | p :: S, m, acc, h1, h2, h3 => by
    simp only [List.foldl_cons]
    refine datum_fold key S _ _ (h1.put _ _) ?_ ?_
    · by_cases hp : p.1 = key
      · rw [if_pos hp, hp, has_put_same h1 (show WideAt.IsKeyLit (.int .u64 key) from trivial)]; rfl
      · rw [if_neg hp, has_put_other (by simp only [ne_eq, Lit.int.injEq, true_and]; exact fun h => hp h.symm)]; exact h2
    · by_cases hp : p.1 = key
      · rw [if_pos hp, hp, atKey_put_same h1 (show WideAt.IsKeyLit (.int .u64 key) from trivial)]; rfl
      · rw [if_neg hp, atKey_put_other (by simp only [ne_eq, Lit.int.injEq, true_and]; exact fun h => hp h.symm)]; exact h3
theorem MapAt.of_own {w : World} {mB n : Nat} {S : List (Int × Int)} (h : w.ownsMap Yba.prog 32 (plainElem Yba.prog 3) mB n (datum S)) : MapAt w mB S := by
  refine ⟨h.lt, fun W key hW h0 h8 => ?_⟩
  have hW' : W.ownsMap Yba.prog 32 (plainElem Yba.prog 3) mB n (datum S) := by
    obtain ⟨es, clock, hb, r⟩ := h
    exact ⟨es, clock, hW.trans hb, r⟩
  have hwf : (Lit.int .u64 key).wf = true := key_wf h0 h8
  obtain ⟨v, ps, hrun, hv⟩ := hW'.look_ok law Yba.underlying44 (zeroE W) (plainElem_int Yba.underlying3 (by decide)) (keyOf_int_mk Yba.underlying32 hwf)
  obtain ⟨c, rfl, hc, _⟩ := plainElem_int_inv Yba.underlying3 hv
  obtain ⟨_, d2, d3⟩ := datum_fold key S (.map []) none isMap_empty rfl rfl
  have hc' := congrArg Prod.fst hc
  have e3 : (datum S).atKey (.int .u64 key) (.lit (.int .i64 0)) = .lit (.int .i64 ((lastOf S key).getD 0)) := d3
  rw [e3] at hc'
  simp only [DataW.lit.injEq, Lit.int.injEq, true_and] at hc'
  have e2 : Maps.has (datum S) (.int .u64 key) = (lastOf S key).isSome := d2
  rw [hrun, e2, hc']
end Go.Proofs.Ybulkdfvk
