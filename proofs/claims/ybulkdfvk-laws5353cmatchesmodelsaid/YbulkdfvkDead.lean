/-
  'deadLetters' by its contract.
-/
import Derived.Test.YbulkdfvkModel
import Derived.Deep.QuietTactic
import Derived.BigQuiet
import Derived.Outline
import Derived.WalkSmall
import Derived.Deep.AppendLies
namespace Go.Proofs.Ybulkdfvk
open Go.RowKit Go.Maps

theorem info39 : (Yba.prog.info? 39).map (fun i => (i.zero, i.size, i.bytes)) = some (some (.agg #[.int .u64 0, .string ⟨#[]⟩, .int .u64 0, .int .i64 0, .pointer none]), 5, 48) := by kernel_rfl

theorem own_yes {w' : World} {B k : Nat} {S : List (Int × Int)} {q : Nat → Int} {v' : Value} {qk : Int} (h : pk S q k = true) (hq : qk = q k)
    (own1 : w'.ownsRow B 39 5 v' ((picks S q k).length + 1) ((picks S q k).flatMap (D5 q) ++ [.int .u64 qk, .string rS, .int .u64 k, .int .i64 0, .pointer none])) :
    w'.ownsRow B 39 5 v' (picks S q (k + 1)).length ((picks S q (k + 1)).flatMap (D5 q)) := by
  rw [picks_yes h, List.length_append, List.flatMap_append]
  subst hq
  exact own1
theorem new_block (X : World) (o : Obj) (m : Nat) (h : X.heap.size = m) : (X.alloc o).heap[m]? = some o := by
  subst h
  exact heap_alloc_new X o

set_option maxHeartbeats 1000000 in
set_option maxRecDepth 100000 in
theorem dead_any (rB dB mB n : Nat) (q : Nat → Int) (S : List (Int × Int)) (w : World) (hn : n ≤ 1024) (hq : ∀ i, 0 ≤ q i ∧ q i < 8) (hrB : rB < w.heap.size)
    (hr8 : w.cell? ⟨rB, 8, none⟩ = some (.slice (some ⟨dB, 0, none⟩) n n)) (hr9 : w.cell? ⟨rB, 9, none⟩ = some (.map (some mB))) (hD : DeathsAt w dB n q) (hM : MapAt w mB S) :
    Calls Yba.prog 7 #[.pointer (some ⟨rB, 0, none⟩)] w fun e w' => ∃ v, e = .returned v ∧ w'.ownsRow w.heap.size 39 5 v (picks S q n).length ((picks S q n).flatMap (D5 q)) ∧ Below w.heap.size w w' := by
  have hn' : (n : Int) ≤ 1024 := by omega
  obtain ⟨i5, hi5, hz5, hs5, hb5⟩ := info_parts info39
  have HD : Hid (DeathsAt w dB n q) := hD
  have HM : Hid (MapAt w mB S) := hM
  clear hD hM
  go_enter Yba.func7, Yba.ntmps7
  go_wp2
  go_loopw [3, 13] (fun v i wr => ∃ k : Nat, k ≤ n ∧ i = .int .i64 k ∧ Hid (wr.ownsRow w.heap.size 39 5 v (picks S q k).length ((picks S q k).flatMap (D5 q)) ∧ Below w.heap.size w wr)) (fun _ i _ => n - (intOf i).toNat)
  case atStart => exact ⟨0, Nat.zero_le _, rfl, World.ownsRow_nil _ _ _ _, Below.refl _ _⟩
  case round =>
    obtain ⟨k, hk, rfl, HK⟩ := hrel
    by_cases hlt : k < n
    · have hlt' : (k : Int) < (n : Int) := by omega
      obtain ⟨hown, bel⟩ := HK.out
      obtain ⟨d0, d1, d2, d3, d4⟩ := (HD.out.below bel).2 k hlt
      have hr9' : wr.cell? ⟨rB, 9, none⟩ = some (.map (some mB)) := (bel.cell hrB).trans hr9
      have hrB' : rB < wr.heap.size := Nat.lt_of_lt_of_le hrB bel.size
      obtain ⟨qk, hqk⟩ : ∃ x, x = q k := ⟨_, rfl⟩
      have hq0 := hq k
      rw [← hqk] at d0 hq0
      obtain ⟨hqa, hqb⟩ := hq0
      have hMr := HM.out.below bel
      have hlook : ∀ (o : Obj) (nn : Nat), (Instr.lookup 44 (.map (some mB)) (.int .u64 qk) true).run Yba.prog ((wr.alloc o).drewN nn) = .ok (.tuple #[.int .i64 ((lastOf S qk).getD 0), .bool (lastOf S qk).isSome]) ((wr.alloc o).drewN nn) := fun o nn =>
        hMr.2 _ qk (_root_.Go.heap_alloc_old wr o hMr.1) hqa hqb
      have HQ : Hid (qk = q k) := hqk
      clear hqk hMr hown bel
      by_cases hp : lastOf S qk = some (k : Int)
      · have HP : Hid (pk S q k = true) := by unfold Hid pk; rw [← HQ.out]; exact decide_eq_true hp
        rw [hp] at hlook
        clear hp
        simp only [Option.getD_some, Option.isSome_some] at hlook
        go_wp2
        go_quiet (fail)
        have hsz : w.heap.size ≤ wr.heap.size := HK.out.2.size
        have hpl := picks_le S q k
        go_wp2_with (at_builtin; refine wpList_append_own _ rfl (.tmp 34) (.tmp 36) 31 rfl w.heap.size 39 i5 _ 5 48 Yba.underlying31 hi5 hz5 hs5 hb5 rfl (by decide) _ (picks S q k).length ((picks S q k).flatMap (D5 q)) rfl ((HK.out.1.alloc _).alloc _) ⟨wr.heap.size + 1, 0, none⟩ 1 1 [.int .u64 qk, .string rS, .int .u64 k, .int .i64 0, .pointer none] rfl rfl ?c1 ?c2 ?c3 ?c4 ?c5 ?_)
        case c1 => exact World.news_of_block (cs := #[.int .u64 qk, .string rS, .int .u64 k, .int .i64 0, .pointer none]) (t := 39) (fr := (0, 0)) (new_block _ _ _ (by simp))
        case c2 => simp [Value.oneCell']
        case c3 => unfold maxLen; omega
        case c4 => omega
        case c5 => simp; omega
        · intro v' w1 own1 grow1 _
          have R : Hid (w1.ownsRow w.heap.size 39 5 v' (picks S q (k + 1)).length ((picks S q (k + 1)).flatMap (D5 q)) ∧ Below w.heap.size w w1) := by
            refine ⟨own_yes HP.out HQ.out own1, ?_⟩
            exact Below.grown ((below_drewN (HK.out.2.alloc hsz _) nq).alloc (by simp; omega) _) grow1 (by simp; omega) (fun j hj => (HK.out.1.lt j hj).1)
          clear own1 grow1
          go_wp2
          go_roundw
          case rel => exact ⟨k + 1, by omega, by go_num, R⟩
          case measure => simp [intOf]; omega
      · have HP : Hid (pk S q k = false) := by unfold Hid pk; rw [← HQ.out]; exact decide_eq_false hp
        have hsz : w.heap.size ≤ wr.heap.size := HK.out.2.size
        have R : ∀ (o : Obj) (nn : Nat) (v : Value), wr.ownsRow w.heap.size 39 5 v (picks S q k).length ((picks S q k).flatMap (D5 q)) → Hid (((wr.alloc o).drewN nn).ownsRow w.heap.size 39 5 v (picks S q (k + 1)).length ((picks S q (k + 1)).flatMap (D5 q)) ∧ Below w.heap.size w ((wr.alloc o).drewN nn)) := fun o nn v hv => by
          refine ⟨?_, below_drewN (HK.out.2.alloc hsz o) nn⟩
          rw [picks_no HP.out]
          exact hv.alloc o
        cases hL : lastOf S qk with
        | none =>
          rw [hL] at hlook
          clear hp hL
          simp only [Option.getD_none, Option.isSome_none] at hlook
          go_wp2
          go_quiet (fail)
          go_wp2
          go_roundw
          case rel => exact ⟨k + 1, by omega, by go_num, R _ _ _ HK.out.1⟩
          case measure => simp [intOf]; omega
        | some c =>
          rw [hL] at hlook
          have hck : (c == (k : Int)) = false := by
            simp only [beq_eq_false_iff_ne, ne_eq]
            exact fun h => hp (by rw [hL, h])
          clear hp hL
          simp only [Option.getD_some, Option.isSome_some] at hlook
          go_wp2
          go_quiet (fail)
          go_wp2
          go_roundw
          case rel => exact ⟨k + 1, by omega, by go_num, R _ _ _ HK.out.1⟩
          case measure => simp [intOf]; omega
    · obtain rfl : k = n := by omega
      go_wp2
      go_ret
      exact ⟨_, rfl, HK.out.1, HK.out.2⟩
end Go.Proofs.Ybulkdfvk
