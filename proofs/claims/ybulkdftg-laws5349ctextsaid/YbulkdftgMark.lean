/-
  A row of bytes as '[]byte(s)' makes it (it bears a mark behind its last cell) and what 'append' and 'string(..)' do with it. No function of the program is walked here but (*strings.Builder).String.
-/
import Derived.Test.YbulkdftgPlain
import Derived.Lib.FrozenHead
import Derived.Laws.IdiomStrings
import Derived.RegionTactic
import Derived.Deep.RegionLaw
namespace Go.Proofs.Ybulkdftg
open Go.RowKit

/-- The slice value v holds the bytes l at the head of a row of its own (a block from 'base' on); whatever of the row is frozen lies behind its last cell. -/
def HoldsB (w : World) (base : Nat) (v : Value) (l : List UInt8) : Prop :=
  ∃ g cap cur fz, v = .slice (some ⟨g, 0, none⟩) l.length cap ∧ base ≤ g ∧ w.heap[g]? = some (.cells cur 5 fz) ∧ (fz.2 = 0 ∨ cap ≤ fz.1) ∧ l.length ≤ cap ∧ cap ≤ maxLen ∧ cur.size = cap ∧ cur.toList.take l.length = Lib.byteCells l

theorem HoldsB.cells {w : World} {base : Nat} {v : Value} {l : List UInt8} (h : HoldsB w base v l) :
    ∃ g cap, v = .slice (some ⟨g, 0, none⟩) l.length cap ∧ base ≤ g ∧ g < w.heap.size ∧ ∀ j (hj : j < l.length), w.cell? ((⟨g, 0, none⟩ : Addr).add j) = some (.int .u8 (l[j].toNat : Int)) := by
  obtain ⟨g, cap, cur, fz, rfl, hb, hg, _, _, _, _, ht⟩ := h
  refine ⟨g, cap, rfl, hb, (Array.getElem?_eq_some_iff.1 hg).1, fun j hj => ?_⟩
  have hadd : (⟨g, 0, none⟩ : Addr).add j = ⟨g, j, none⟩ := by unfold Addr.add; split <;> simp_all
  rw [hadd, cell_of_row w g j cur 5 fz hg]
  have h1 : (cur.toList.take l.length)[j]? = some (.int .u8 (l[j].toNat : Int)) := by
    rw [ht]
    simp [Lib.byteCells, hj]
  rw [List.getElem?_take, if_pos hj] at h1
  simpa using h1

/-- It holds them in every world whose cells are the same from 'base' on. -/
theorem HoldsB.back {w w' : World} {base : Nat} {v : Value} {l : List UInt8} (h : HoldsB w base v l) (hc : ∀ a : Addr, base ≤ a.block → w'.cell? a = w.cell? a) :
    (convert 26 9 v).run Yba.prog w' = .ok (.string ⟨l.toArray⟩) w' := by
  obtain ⟨g, cap, rfl, hb, _, hcell⟩ := h.cells
  refine run_convert_bytes_back w' 26 9 5 ⟨g, 0, none⟩ cap l Yba.underlying26 Yba.underlying5 Yba.underlying9 fun j hj => ?_
  rw [← hcell j hj]
  exact hc _ (by unfold Addr.add; split <;> exact hb)

/-- Cells stored one behind another into a row of which nothing that is written is frozen. -/
theorem run_storeCells_free (P : Program) (g o : Nat) (t : TypeId) (fz : Nat × Nat) : ∀ (vs : List Value) (i : Nat) (cur : Array Value) (w : World), w.heap[g]? = some (.cells cur t fz) → (fz.2 = 0 ∨ o + i + vs.length ≤ fz.1) → o + i + vs.length ≤ cur.size → (∀ v ∈ vs, v.oneCell' = true) →
    (storeCells ⟨g, o, none⟩ vs i).run P w = .ok () (w.setRow g (cur.toList.take (o + i) ++ vs ++ cur.toList.drop (o + i + vs.length)).toArray)
  | [], i, cur, w, hg, _, _, _ => by
    simp only [storeCells, List.append_nil, List.length_nil, Nat.add_zero, List.take_append_drop, Array.toArray_toList]
    rw [setRow_self w g cur t fz hg]
    rfl
  | v :: rest, i, cur, w, hg, hfz, hl, h1 => by
    have hi : o + i < cur.size := by simp at hl; omega
    have hadd : (⟨g, o, none⟩ : Addr).add i = ⟨g, o + i, none⟩ := by unfold Addr.add; split <;> simp_all
    have hcell : w.cell? ⟨g, o + i, none⟩ = some cur[o + i] := by simp [World.cell?, hg, hi]
    have hfro : w.frozen? ⟨g, o + i, none⟩ = false := by
      obtain ⟨lo, hi'⟩ := fz
      simp only [List.length_cons] at hfz
      simp only [World.frozen?, hg, Bool.and_eq_false_iff, decide_eq_false_iff_not]
      omega
    have hst : (store ((⟨g, o, none⟩ : Addr).add i) v).run P w = .ok () (w.setRow g (cur.setIfInBounds (o + i) v)) := by
      rw [hadd, run_store P w _ v _ (h1 v (by simp)), hcell]
      simp [hfro, setCell_eq_setRow w g (o + i) cur t fz v hg]
    have ih := run_storeCells_free P g o t fz rest (i + 1) (cur.setIfInBounds (o + i) v) (w.setRow g (cur.setIfInBounds (o + i) v)) (setRow_heap w g cur _ t _ hg) (by simp only [List.length_cons] at hfz; omega) (by simp at hl ⊢; omega) (fun x hx => h1 x (by simp [hx]))
    simp only [storeCells, Sem.run_bind, hst, Result.andThen_ok, ih, setRow_setRow]
    congr 3
    have e := list_seg_step cur.toList (o + i) v rest (by simp at hl ⊢; omega)
    simpa [Array.toList_setIfInBounds, Nat.add_assoc] using e

theorem Yba.info5 : (Yba.prog.info? 5).map (fun i => (i.zero, i.size, i.bytes)) = some (some (.int .u8 0), 1, 1) := by kernel_rfl

/-- What both arms of an append leave. -/
theorem holds_room {w : World} {base g cap : Nat} {l m : List UInt8} {cur : Array Value} {fz : Nat × Nat} (hb : base ≤ g) (hg : w.heap[g]? = some (.cells cur 5 fz)) (hfz : fz.2 = 0 ∨ cap ≤ fz.1) (hcm : cap ≤ maxLen) (hcs : cur.size = cap)
    (ht : cur.toList.take l.length = Lib.byteCells l) (hroom : l.length + m.length ≤ cap) :
    HoldsB (w.setRow g (cur.toList.take l.length ++ Lib.byteCells m ++ cur.toList.drop (l.length + m.length)).toArray) base (.slice (some ⟨g, 0, none⟩) (l.length + m.length) cap) (l ++ m) ∧
    w.grownBy (w.setRow g (cur.toList.take l.length ++ Lib.byteCells m ++ cur.toList.drop (l.length + m.length)).toArray) (some g) := by
  refine ⟨⟨g, cap, _, fz, by rw [List.length_append], hb, setRow_heap w g cur _ 5 _ hg, hfz, by rw [List.length_append]; exact hroom, hcm, ?_, ?_⟩, ⟨rfl, rfl, rfl, by simp, fun k _ hk => setRow_other w g k _ (fun e => hk (by simp [e]))⟩⟩
  · simp only [List.size_toArray, List.length_append, List.length_take, List.length_drop, Array.length_toList, Lib.byteCells_length]
    omega
  · rw [ht, ← Lib.byteCells_append, ← Lib.byteCells_length (l ++ m)]
    exact List.take_left

theorem holds_grown {w : World} {base : Nat} {l m : List UInt8} (old : Nat) (row : Option Nat) (hbw : base ≤ w.heap.size) (h63 : l.length + m.length ≤ maxLen) :
    HoldsB (w.drew.alloc (.cells ((Lib.byteCells l).toArray ++ (Lib.byteCells m).toArray ++ Builtin.zeroCells (Value.int .u8 0).cells (grownCap w (l.length + m.length) old 5 - (l.length + m.length))) 5)) base
      (.slice (some ⟨w.heap.size, 0, none⟩) (l.length + m.length) (grownCap w (l.length + m.length) old 5)) (l ++ m) ∧
    w.grownBy (w.drew.alloc (.cells ((Lib.byteCells l).toArray ++ (Lib.byteCells m).toArray ++ Builtin.zeroCells (Value.int .u8 0).cells (grownCap w (l.length + m.length) old 5 - (l.length + m.length))) 5)) row := by
  have hge := grownCap_ge w (l.length + m.length) old 5
  have hcm := grownCap_le_maxLen w (l.length + m.length) old 5 h63
  refine ⟨⟨w.heap.size, _, _, (0, 0), by rw [List.length_append], hbw, heap_alloc_new w.drew _, Or.inl rfl, by rw [List.length_append]; exact hge, hcm, ?_, ?_⟩, ⟨rfl, rfl, rfl, by simp, fun k hk _ => _root_.Go.heap_alloc_old w.drew _ hk⟩⟩
  · have hz1 : (Value.int IntKind.u8 0).cells.size = 1 := rfl
    simp only [Array.size_append, List.size_toArray, size_zeroCells, hz1, Lib.byteCells_length]
    omega
  · simp only [Array.toList_append, ← Lib.byteCells_append]
    rw [← Lib.byteCells_length (l ++ m)]
    exact List.take_left

/-- 'append(out, s...)', s a string. -/
theorem append_str (w : World) (base : Nat) (v : Value) (l : List UInt8) (s : ByteArray) (h : HoldsB w base v l) (hn : l.length + s.size ≤ 140737488355328) (hbw : base ≤ w.heap.size) :
    ∃ v' w', (Builtin.append_ #[26, 9] 26 #[v, .string s]).run Yba.prog w = .ok v' w' ∧ HoldsB w' base v' (l ++ s.data.toList) ∧ Below base w w' := by
  obtain ⟨i, hi, hz, hs1, hby⟩ := info_parts Yba.info5
  obtain ⟨g, cap, hv, hbg, hglt, hcell⟩ := h.cells
  obtain ⟨g', cap', cur, fz, hv', hb, hg, hfz, hnc, hcm, hcs, ht⟩ := h
  obtain ⟨rfl, rfl⟩ : g = g' ∧ cap = cap' := by rw [hv] at hv'; simpa using hv'
  have hsl : s.data.toList.length = s.size := rfl
  by_cases hroom : l.length + s.size ≤ cap
  · have hf := Lib.run_firstCells_string (P := Yba.prog) w 1 s
    have hst := run_storeCells_free Yba.prog g l.length 5 fz (Lib.strCells s) 0 cur w hg (by rw [Lib.strCells_length]; omega) (by rw [Lib.strCells_length]; omega) (Lib.strCells_oneCell s)
    simp only [Nat.add_zero, Lib.strCells_length] at hst
    have hh := holds_room (m := s.data.toList) hb hg hfz hcm hcs ht (by rw [hsl]; exact hroom)
    refine ⟨.slice (some ⟨g, 0, none⟩) (l.length + s.size) cap, _, ?_, hh.1, Below.grown (Below.refl base w) hh.2 hbw (fun k hk => by simp at hk; omega)⟩
    subst hv
    simp [Builtin.append_, run_underlying Yba.underlying26, run_underlying Yba.underlying9, sizeOf, typeInfo, hi, hs1, Builtin.lenOf, hroom, hf, Addr.add_lit, hst, hsl]
    rfl
  · have hr := Lib.run_append_grow_string (P := Yba.prog) w 26 9 26 5 i (.int .u8 0) Yba.underlying26 Yba.underlying9 hi hz ⟨g, 0, none⟩ l.length cap (Lib.byteCells l) (by rw [hs1, Lib.byteCells_length, Nat.mul_one])
      (fun j u hu => by
        have hj : j < l.length := by have := (List.getElem?_eq_some_iff.1 hu).1; rwa [Lib.byteCells_length] at this
        rw [hcell j hj]
        simpa [Lib.byteCells, hj] using hu) s (by omega) (by omega) (by rw [hby]; exact growslice_fits (by omega) (by omega))
    have hh := holds_grown (w := w) (base := base) (l := l) (m := s.data.toList) cap none hbw (by rw [hsl]; unfold maxLen; omega)
    subst hv
    exact ⟨_, _, hr, hh.1, Below.grown (Below.refl base w) hh.2 hbw (fun k hk => by simp at hk)⟩

/-- 'append(out, xs...)', xs a slice whose cells are the bytes m. -/
theorem append_sl (w : World) (base : Nat) (v : Value) (l m : List UInt8) (a : Addr) (c : Nat) (h : HoldsB w base v l) (hm : ∀ j u, (Lib.byteCells m)[j]? = some u → w.cell? (a.add j) = some u) (hn : l.length + m.length ≤ 140737488355328) (hbw : base ≤ w.heap.size) :
    ∃ v' w', (Builtin.append_ #[26, 26] 26 #[v, .slice (some a) m.length c]).run Yba.prog w = .ok v' w' ∧ HoldsB w' base v' (l ++ m) ∧ Below base w w' := by
  obtain ⟨i, hi, hz, hs1, hby⟩ := info_parts Yba.info5
  obtain ⟨g, cap, hv, hbg, hglt, hcell⟩ := h.cells
  obtain ⟨g', cap', cur, fz, hv', hb, hg, hfz, hnc, hcm, hcs, ht⟩ := h
  obtain ⟨rfl, rfl⟩ : g = g' ∧ cap = cap' := by rw [hv] at hv'; simpa using hv'
  have hml : (Lib.byteCells m).length = m.length * i.size := by rw [hs1, Lib.byteCells_length, Nat.mul_one]
  have h1 : ∀ u ∈ Lib.byteCells m, u.oneCell' = true := by
    intro u hu
    simp only [Lib.byteCells, List.mem_map] at hu
    obtain ⟨x, _, rfl⟩ := hu
    rfl
  by_cases hroom : l.length + m.length ≤ cap
  · have hf := run_firstCells_some (P := Yba.prog) w i.size m.length a m.length c (Lib.byteCells m) hml hm
    have hst := run_storeCells_free Yba.prog g l.length 5 fz (Lib.byteCells m) 0 cur w hg (by rw [Lib.byteCells_length]; omega) (by rw [Lib.byteCells_length]; omega) h1
    simp only [Nat.add_zero, Lib.byteCells_length] at hst
    have hh := holds_room (m := m) hb hg hfz hcm hcs ht hroom
    refine ⟨.slice (some ⟨g, 0, none⟩) (l.length + m.length) cap, _, ?_, hh.1, Below.grown (Below.refl base w) hh.2 hbw (fun k hk => by simp at hk; omega)⟩
    subst hv
    rw [hs1] at hf
    simp [Builtin.append_, run_underlying Yba.underlying26, sizeOf, typeInfo, hi, hs1, Builtin.lenOf, hroom, hf, Addr.add_lit, hst]
  · have hr := run_append_grow (P := Yba.prog) w 26 26 5 i (.int .u8 0) Yba.underlying26 hi hz ⟨g, 0, none⟩ l.length cap (Lib.byteCells l) (by rw [hs1, Lib.byteCells_length, Nat.mul_one])
      (fun j u hu => by
        have hj : j < l.length := by have := (List.getElem?_eq_some_iff.1 hu).1; rwa [Lib.byteCells_length] at this
        rw [hcell j hj]
        simpa [Lib.byteCells, hj] using hu) a m.length c (Lib.byteCells m) hml hm (by omega) (by omega) (by rw [hby]; exact growslice_fits (by omega) (by omega))
    have hh := holds_grown (w := w) (base := base) (l := l) (m := m) cap none hbw (by unfold maxLen; omega)
    subst hv
    exact ⟨_, _, hr, hh.1, Below.grown (Below.refl base w) hh.2 hbw (fun k hk => by simp at hk)⟩

/-- 'append(out, c)': the byte lies in a new block of its own first. -/
theorem append_one (w : World) (base : Nat) (v : Value) (l : List UInt8) (c : UInt8) (h : HoldsB w base v l) (hn : l.length + 1 ≤ 140737488355328) (hbw : base ≤ w.heap.size) :
    ∃ v' w', (Builtin.append_ #[26, 26] 26 #[v, .slice (some ⟨w.heap.size, 0, none⟩) 1 1]).run Yba.prog (w.alloc (.cells #[.int .u8 c.toNat] 5)) = .ok v' w' ∧ HoldsB w' base v' (l ++ [c]) ∧ Below base w w' := by
  have h' : HoldsB (w.alloc (.cells #[.int .u8 c.toNat] 5)) base v l := by
    obtain ⟨g, cap, cur, fz, hv, hb, hg, r⟩ := h
    exact ⟨g, cap, cur, fz, hv, hb, by rw [_root_.Go.heap_alloc_old w _ (Array.getElem?_eq_some_iff.1 hg).1]; exact hg, r⟩
  have := append_sl (w.alloc (.cells #[.int .u8 c.toNat] 5)) base v l [c] ⟨w.heap.size, 0, none⟩ 1 h' (fun j u hu => by
    match j, hu with
    | 0, hu => simp [Lib.byteCells] at hu; subst hu; simp [Addr.add]) hn (by simp; omega)
  obtain ⟨v', w', h1, h2, h3⟩ := this
  exact ⟨v', w', h1, h2, ((Below.refl base w).alloc hbw _).trans h3⟩

/-- 'append(out, '0', '.')'. -/
theorem append_two (w : World) (base : Nat) (v : Value) (l : List UInt8) (c d : UInt8) (h : HoldsB w base v l) (hn : l.length + 2 ≤ 140737488355328) (hbw : base ≤ w.heap.size) :
    ∃ v' w', (Builtin.append_ #[26, 26] 26 #[v, .slice (some ⟨w.heap.size, 0, none⟩) 2 2]).run Yba.prog (w.alloc (.cells #[.int .u8 c.toNat, .int .u8 d.toNat] 5)) = .ok v' w' ∧ HoldsB w' base v' (l ++ [c, d]) ∧ Below base w w' := by
  have h' : HoldsB (w.alloc (.cells #[.int .u8 c.toNat, .int .u8 d.toNat] 5)) base v l := by
    obtain ⟨g, cap, cur, fz, hv, hb, hg, r⟩ := h
    exact ⟨g, cap, cur, fz, hv, hb, by rw [_root_.Go.heap_alloc_old w _ (Array.getElem?_eq_some_iff.1 hg).1]; exact hg, r⟩
  have := append_sl (w.alloc (.cells #[.int .u8 c.toNat, .int .u8 d.toNat] 5)) base v l [c, d] ⟨w.heap.size, 0, none⟩ 2 h' (fun j u hu => by
    match j, hu with
    | 0, hu => simp [Lib.byteCells] at hu; subst hu; simp [Addr.add]
    | 1, hu => simp [Lib.byteCells] at hu; subst hu; simp [Addr.add]) hn (by simp; omega)
  obtain ⟨v', w', h1, h2, h3⟩ := this
  exact ⟨v', w', h1, h2, ((Below.refl base w).alloc hbw _).trans h3⟩

/-- '[]byte(s)'. -/
theorem conv_bytes (w : World) (s : ByteArray) (hs : s.size ≤ maxLen) :
    ∃ v' w', (convert 9 26 (.string s)).run Yba.prog w = .ok v' w' ∧ HoldsB w' w.heap.size v' s.data.toList ∧ Below w.heap.size w w' := by
  have hr := run_bytes_of_string (P := Yba.prog) w 9 26 5 s Yba.underlying9 Yba.underlying26 Yba.underlying5
  have hge := grownCap_ge w s.size 0 5
  have hcm := grownCap_le_maxLen w s.size 0 5 hs
  have hsz : (bytesRow s (grownCap w s.size 0 5)).size = grownCap w s.size 0 5 := by
    have : s.data.size = s.size := rfl
    simp only [bytesRow, Array.size_append, Array.size_map, Array.size_replicate]
    omega
  refine ⟨_, _, hr, ⟨w.heap.size, grownCap w s.size 0 5, _, _, rfl, Nat.le_refl _, heap_alloc_new w.drew _, Or.inr (by rw [hsz]; exact Nat.le_refl _), hge, hcm, hsz, ?_⟩, ((Below.refl w.heap.size w).drew).alloc (Nat.le_refl _) _⟩
  have e1 : (bytesRow s (grownCap w s.size 0 5)).toList = Lib.byteCells s.data.toList ++ List.replicate (grownCap w s.size 0 5 - s.size) (.int .u8 0) := by
    simp [bytesRow, Lib.byteCells]
  rw [e1, ← Lib.byteCells_length s.data.toList]
  exact List.take_left

/-- An append whose run is known, for the walk. -/
theorem wpList_app {P : Program} {w : World} {ops : Array Oper} {rest : List Oper} {o : Oper} {a : Act} {Q : Exit → Act → World → Prop} (hgd : o.guard = none) (sl x : Operand) (t u : TypeId)
    (ho : o.op = .call { callee := .builtin .append, args := #[sl, x], argTypes := #[t, u] }) (v xv v' : Value) (w' : World) (hs : a.eval sl = v) (hx : a.eval x = xv)
    (hr : (Builtin.append_ #[t, u] o.type #[v, xv]).run P w = .ok v' w') (h : wpList P ops Q rest (a.put o.dst v') w') : wpList P ops Q (o :: rest) a w := by
  refine wpList_plain hgd fun K hK => ?_
  unfold Oper.wp execOp
  simp only [ho, resolve, invoke, builtin, Sem.run_bind, Sem.run_pure, Result.andThen_ok, List.map_toArray, List.map_cons, List.map_nil, hs, hx, hr]
  exact hK _ _ h

/-- Freezing turns no cell. -/
theorem cell_freeze (w : World) (p : Addr) (n : Nat) (a : Addr) : (w.freeze p n).cell? a = w.cell? a := by
  unfold World.freeze
  split
  · rfl
  · unfold World.cell?
    simp only [Array.getElem?_modify]
    by_cases h : p.block = a.block
    · rw [if_pos h]
      cases w.heap[a.block]? with
      | none => rfl
      | some o => cases o <;> rfl
    · rw [if_neg h]

/-- A builtin of one operand whose run is known, as one step of a region that draws. -/
theorem step_one {P : Program} {ops : Array Oper} {o : Oper} {a : Act} {w : World} {K : Act → World → Prop} {Q : Exit → Act → World → Prop} {E : Prop}
    (hg : o.guard = none) (v v' : Value) (w' : World)
    (hr : ∃ bi x t, o.op = Op.call { callee := .builtin bi, args := #[x], argTypes := #[t] } ∧ a.eval x = v ∧ ∀ cs, (builtin bi #[t] o.type cs #[v]).run P w = .ok (.value v') w')
    (hK : K (a.put o.dst v') w') :
    if Region.wanted o (yielded ops a.tmps) = true then Oper.wp P o a w K Q else E := by
  obtain ⟨bi, x, t, hop, hv, hrun⟩ := hr
  have hw : Region.wanted o (yielded ops a.tmps) = true := by simp [Region.wanted, hg]
  rw [if_pos hw]
  unfold Oper.wp
  simp only [execOp, hop, resolve, invoke, Sem.run_bind, Sem.run_pure, Result.andThen_ok, List.map_toArray, List.map_cons, List.map_nil, hv, hrun]
  exact hK
/-- .. of two operands. -/
theorem step_two {P : Program} {ops : Array Oper} {o : Oper} {a : Act} {w : World} {K : Act → World → Prop} {Q : Exit → Act → World → Prop} {E : Prop}
    (hg : o.guard = none) (v u v' : Value) (w' : World)
    (hr : ∃ bi x y t r, o.op = Op.call { callee := .builtin bi, args := #[x, y], argTypes := #[t, r] } ∧ a.eval x = v ∧ a.eval y = u ∧ ∀ cs, (builtin bi #[t, r] o.type cs #[v, u]).run P w = .ok (.value v') w')
    (hK : K (a.put o.dst v') w') :
    if Region.wanted o (yielded ops a.tmps) = true then Oper.wp P o a w K Q else E := by
  obtain ⟨bi, x, y, t, r, hop, hv, hu, hrun⟩ := hr
  have hw : Region.wanted o (yielded ops a.tmps) = true := by simp [Region.wanted, hg]
  rw [if_pos hw]
  unfold Oper.wp
  simp only [execOp, hop, resolve, invoke, Sem.run_bind, Sem.run_pure, Result.andThen_ok, List.map_toArray, List.map_cons, List.map_nil, hv, hu, hrun]
  exact hK

/-- The bytes of a row's head read as a string, whatever stands in the three arms that are not come to; the bytes are frozen. -/
theorem us_core {P : Program} (w : World) (pt e : TypeId) (hp : P.underlying pt = some (.pointer e)) (hc : P.cellsOf e = 1) (g cells : Nat) (hsh : w.shape? g = some (e, cells)) (l : List UInt8) (h0 : l ≠ []) (hn : l.length ≤ cells) (h63 : l.length ≤ 9223372036854775807)
    (hcell : ∀ j x, l[j]? = some x → w.cell? ((⟨g, 0, none⟩ : Addr).add j) = some (.int .u8 x.toNat))
    (X : Sem Next) (Y1 Y2 : Sem PUnit) (Y3 : Sem Value)
    (hX : X = (do
      let v ← (do
        let n ← asInt (.int .i64 l.length)
        if n < 0 then Y1
        if n > IntKind.i64.max then Y2
        if n = 0 then pure (.string .empty)
        else if ← variablesAt ⟨g, 0, none⟩ (← elemOf pt) n.toNat then do
          let s ← loadBytes ⟨g, 0, none⟩ .empty n.toNat
          freeze ⟨g, 0, none⟩ n.toNat
          pure (.string s)
        else Y3)
      pure (.value v))) :
    X.run P w = .ok (.value (.string ⟨l.toArray⟩)) (w.freeze ⟨g, 0, none⟩ l.length) := by
  have hl : l.length ≠ 0 := by simpa using h0
  have hlb := Lib.run_loadBytes (P := P) w l ⟨g, 0, none⟩ .empty hcell
  have hlies := Lib.liesAt_bytes (P := P) hc (cells / P.cellsOf e) l.length (by rw [hc]; simpa using hn)
  have h63' : ¬ (9223372036854775807 : Int) < (l.length : Int) := by omega
  have hmax : IntKind.i64.max = 9223372036854775807 := rfl
  have hneg : ¬ (l.length : Int) < 0 := by omega
  rw [hX]
  simp [asInt, asIntOf, hmax, h63', hneg, hl, variablesAt, hsh, elemOf, run_underlying hp, hlies, hlb]

set_option maxHeartbeats 1000000 in
/-- (*strings.Builder).String of a builder that holds at least one byte, with a frame that reaches above the builder: no cell has turned. -/
theorem str_some (B b : Nat) (l : List UInt8) (w : World) (h : Lib.IsBuilder 48 5 B b (Lib.byteCells l) w) (h0 : l ≠ []) :
    Calls Yba.prog 21 #[.pointer (some ⟨b, 0, none⟩)] w fun e w' => e = .returned (.string ⟨l.toArray⟩) ∧ Below B w w' ∧ ∀ a, w'.cell? a = w.cell? a := by
  obtain ⟨p, hB, v, hbk, hown, hne⟩ : ∃ p, Lib.BuilderAt 48 5 B b p (Lib.byteCells l) w := by
    rcases h with h | h
    · exact ⟨_, h⟩
    · exact ⟨_, h⟩
  have hl0 : l.length ≠ 0 := by simpa using h0
  rw [Lib.byteCells_length] at hown
  obtain ⟨g, cap, cur, rfl, hbg, hg, hnc, hcm, hcs⟩ : ∃ g cap cur, v = .slice (some ⟨g, 0, none⟩) l.length (cap + 1) ∧ B ≤ g ∧ w.heap[g]? = some (.cells cur 5 (0, 0)) ∧ l.length ≤ cap + 1 ∧ cap + 1 ≤ maxLen ∧ cur.size = cap + 1 := by
    rcases hown.2 with ⟨_, hz⟩ | ⟨g, cap, cur, hv, r1, r2, r3, r4, r5, _⟩
    · exact absurd hz hl0
    · obtain ⟨c, rfl⟩ : ∃ c, cap = c + 1 := ⟨cap - 1, by omega⟩
      exact ⟨g, c, cur, hv, r1, r2, r3, r4, by simpa using r5⟩
  have c1 : w.cell? ⟨b, 1, none⟩ = some (.slice (some ⟨g, 0, none⟩) l.length (cap + 1)) := by
    rw [Lib.cell_of_heap hbk]; rfl
  have hUS := us_core (P := Yba.prog) w.drew 69 5 Yba.underlying69 (by kernel_rfl) g cur.size (by have hg' : w.drew.heap[g]? = some (.cells cur 5 (0, 0)) := hg; simp [World.shape?, hg']) l h0 (by omega) (by unfold maxLen at hcm; omega)
    (fun j x hx => hown.cells (g := g) rfl j (.int .u8 x.toNat) (by simp [Lib.byteCells, hx]))
  have US : Hid (∀ (X : Sem Next) (Y1 Y2 : Sem PUnit) (Y3 : Sem Value), _ → _) := hUS
  clear h hown hbk hg hcs hne hUS
  go_enter Yba.func21, Yba.ntmps21
  go_wp2
  go_region_law (first
    | (refine step_two (by rfl) (.pointer (some ⟨g, 0, none⟩)) (.int .i64 l.length) (.string ⟨l.toArray⟩) (w.drew.freeze ⟨g, 0, none⟩ l.length) ⟨_, _, _, _, _, rfl, rfl, rfl, fun _ => US.out _ _ _ _ rfl⟩ ?_)
    | (refine step_one (by rfl) (.slice (some ⟨g, 0, none⟩) l.length (cap + 1)) (.pointer (some ⟨g, 0, none⟩)) w.drew ⟨_, _, _, rfl, rfl, fun _ => rfl⟩ ?_))
  all_goals (go_wp2; go_ret; exact ⟨rfl, Lib.below_freeze (Below.drew (Below.refl B w)) (p := ⟨g, 0, none⟩) hbg _, fun a => cell_freeze _ _ _ a⟩)

/-- (*strings.Builder).String beside a row that holds the same bytes: behind it the row converts to the same string. -/
theorem str_both (N M : Nat) (l : List UInt8) (v : Value) (w : World) (h : Lib.IsBuilder 48 5 N N (Lib.byteCells l) w) (hq : HoldsB w M v l) (hN : N ≤ w.heap.size) :
    Calls Yba.prog 21 #[.pointer (some ⟨N, 0, none⟩)] w fun e w' => e = .returned (.string ⟨l.toArray⟩) ∧ Below N w w' ∧ (convert 26 9 v).run Yba.prog w' = .ok (.string ⟨l.toArray⟩) w' := by
  by_cases h0 : l = []
  · subst h0
    refine (Yba.Builder_String_empty N N w h hN).mono ?_
    rintro e w' ⟨rfl, hb⟩
    refine ⟨rfl, hb, ?_⟩
    obtain ⟨g, cap, rfl, _⟩ := hq.cells
    exact run_convert_bytes_back w' 26 9 5 ⟨g, 0, none⟩ cap [] Yba.underlying26 Yba.underlying5 Yba.underlying9 (fun j hj => absurd hj (by simp))
  · refine (str_some N N l w h h0).mono ?_
    rintro e w' ⟨rfl, hb, hc⟩
    exact ⟨rfl, hb, hq.back fun a _ => hc a⟩
end Go.Proofs.Ybulkdftg
