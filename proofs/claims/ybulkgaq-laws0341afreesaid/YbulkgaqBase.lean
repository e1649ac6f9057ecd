/-
  newBlocks and (*blocks).free: a contract each.
-/
import Derived.Test.YbulkgaqKey
import Derived.WalkKit
import Derived.WalkSpells
import Derived.WalkLawsBesides
import Derived.RegionTactic
import Derived.BigRegion
namespace Go.Proofs.Ybulkgaq
open Go.RowKit
open Go.Maps (Keyed)

/-- The cells of a 'blocks': the map, the tenancies. -/
def bcells (mb : Nat) (t : Value) : Array Value := #[.int .u64 0, .map (some mb), t, .slice none 0 0, .nilFunc, .int .i64 0, .slice none 0 0, .slice none 0 0, .slice none 0 0]

theorem store_nilFunc (a : Addr) (w : World) : (store a .nilFunc).run Yba.prog w = stored Yba.prog w a .nilFunc .plain := run_store Yba.prog w a _ _ rfl
attribute [local go_sem] store_nilFunc

set_option maxHeartbeats 400000 in
theorem newBlocks_any (w : World) : Calls Yba.prog 4 #[.nilFunc] w fun e w' => e = .returned (.agg (bcells (w.heap.size + 1) (.slice none 0 0))) ∧ w' = (w.alloc (.cells (bcells (w.heap.size + 1) (.slice none 0 0)) 31)).alloc (.map #[] 0) := by
  have hmm := @run_makeMap Yba.prog
  go_enter Yba.func4, Yba.ntmps4
  go_wp2
  exact bodyPost_ret (v := .agg (bcells (w.heap.size + 1) (.slice none 0 0))) (by simp [results, Yba.results4, go_sem, bcells]) rfl ⟨rfl, rfl⟩

/-- Block g holds the cells cs, none frozen. -/
def blockIs (w : World) (g : Nat) (cs : Array Value) (t : TypeId) : Prop := w.heap[g]? = some (.cells cs t (0, 0))
theorem blockIs.cellAt {w : World} {g : Nat} {cs : Array Value} {t : TypeId} (h : blockIs w g cs t) (j : Nat) : w.cell? ⟨g, j, none⟩ = cs[j]? := cell_of_row _ _ _ _ _ _ h
theorem blockIs.free {w : World} {g : Nat} {cs : Array Value} {t : TypeId} (h : blockIs w g cs t) (j : Nat) : w.frozen? ⟨g, j, none⟩ = false := frozen_of_row _ _ _ _ _ h
theorem blockIs.lt {w : World} {g : Nat} {cs : Array Value} {t : TypeId} (h : blockIs w g cs t) : g < w.heap.size := (Array.getElem?_eq_some_iff.1 h).1
theorem blockIs.of_block {w w' : World} {g : Nat} {cs : Array Value} {t : TypeId} (h : blockIs w g cs t) (e : w'.heap[g]? = w.heap[g]?) : blockIs w' g cs t := e.trans h
theorem blockIs.alloc {w : World} {g : Nat} {cs : Array Value} {t : TypeId} (h : blockIs w g cs t) (o : Obj) : blockIs (w.alloc o) g cs t := (heap_alloc_old w o h.lt).trans h
theorem blockIs_newAt {w w' : World} {n : Nat} {cs : Array Value} {t : TypeId} (hw : w'.heap = (w.alloc (.cells cs t)).heap) (hn : n = w.heap.size) : blockIs w' n cs t := by
  unfold blockIs
  rw [hw, hn]
  exact heap_alloc_new w _

/-- Of the old blocks only those named may have turned. -/
structure Oth (w w' : World) (q1 q2 : Nat) : Prop where
  os : w'.os = w.os
  tape : w'.tape = w.tape
  output : w'.output = w.output
  size : w.heap.size ≤ w'.heap.size
  block : ∀ k, k < w.heap.size → k ≠ q1 → k ≠ q2 → w'.heap[k]? = w.heap[k]?

set_option maxRecDepth 100000 in
set_option maxHeartbeats 1000000 in
/-- Nothing is marked. -/
theorem free_keep (bb mb tb nb n p a : Nat) (H Sh : Nat → Bool) (S : Nat → Int) (w : World) (hbb : blockIs w bb (bcells mb (.slice (some ⟨tb, 0, none⟩) n n)) 31) (hm : mapSt w mb nb H Sh S) (hnb : nb ≤ 2000) (hp : p < 4) (ha : a < 4)
    (hk : H (p * 4 + a) = true → S (p * 4 + a) < 0) :
    Calls Yba.prog 5 #[.pointer (some ⟨bb, 0, none⟩), .agg #[.int .u64 p, .int .u64 a]] w fun e w' => e = .returned (.tuple #[]) ∧ mapSt w' mb (nb + 1) (upd H (p * 4 + a) true) (upd Sh (p * 4 + a) false) (upd S (p * 4 + a) (-1)) ∧ Oth w w' mb mb := by
  have hbl := hbb.lt
  have b1 : ∀ o1, (w.alloc o1).cell? ⟨bb, 1, none⟩ = some (.map (some mb)) := fun o1 => (hbb.alloc o1).cellAt 1
  have b1' : ∀ o1 o2, ((w.alloc o1).alloc o2).cell? ⟨bb, 1, none⟩ = some (.map (some mb)) := fun o1 o2 => ((hbb.alloc o1).alloc o2).cellAt 1
  have hl : ∀ o1, (Instr.lookup 25 (.map (some mb)) (.agg #[.int .u64 p, .int .u64 a]) true).run Yba.prog (w.alloc o1).drew = _ := fun o1 => (hm.of_block (w' := (w.alloc o1).drew) (heap_alloc_old w o1 hm.lt)).look hp ha
  have hl2 : ∀ o1 o2, (Instr.lookup 25 (.map (some mb)) (.agg #[.int .u64 p, .int .u64 a]) true).run Yba.prog ((w.alloc o1).alloc o2).drew = _ := fun o1 o2 => (hm.of_block (w' := ((w.alloc o1).alloc o2).drew) ((heap_alloc_old _ o2 (by have := hm.lt; simp; omega)).trans (heap_alloc_old w o1 hm.lt))).look hp ha
  obtain ⟨o1, ho1⟩ : ∃ o1 : Obj, o1 = .cells #[.int .u64 p, .int .u64 a] 41 := ⟨_, rfl⟩
  have hst : ∀ o2, ∃ w', (Instr.mapUpdate 25 (.map (some mb)) (.agg #[.int .u64 p, .int .u64 a]) (.agg #[.bool false, .int .i64 (-1)])).run Yba.prog ((w.alloc o1).alloc o2).drew.drew = .ok () w' ∧ mapSt w' mb (nb + 1) (upd H (p * 4 + a) true) (upd Sh (p * 4 + a) false) (upd S (p * 4 + a) (-1)) ∧ Oth w w' mb mb := by
    intro o2
    have h2 : mapSt ((w.alloc o1).alloc o2).drew.drew mb nb H Sh S := hm.of_block ((heap_alloc_old _ o2 (by have := hm.lt; simp; omega)).trans (heap_alloc_old w o1 hm.lt))
    obtain ⟨w', e1, e2, e3, e4, e5, e6, e7⟩ := h2.store hnb hp ha false (-1)
    refine ⟨w', e1, e2, ⟨e4, e5, e6, by rw [e3]; simp; omega, fun k hk hk1 _ => (e7 k hk1).trans ((heap_alloc_old _ o2 (by simp; omega)).trans (heap_alloc_old w o1 hk))⟩⟩
  cases hH : H (p * 4 + a) with
  | false =>
    rw [hH] at hl hl2
    simp only [spotV, Bool.false_eq_true, if_false] at hl hl2
    obtain ⟨w', e1, e2, e3⟩ := hst (.cells #[.bool false, .int .i64 0] 37)
    have HE : Hid (mapSt w' mb (nb + 1) (upd H (p * 4 + a) true) (upd Sh (p * 4 + a) false) (upd S (p * 4 + a) (-1)) ∧ Oth w w' mb mb) := ⟨e2, e3⟩
    clear e2 e3 hst hm hk
    subst ho1
    go_enter Yba.func5, Yba.ntmps5
    go_wp2
    go_region
    all_goals go_wp2
    all_goals go_region
    all_goals go_wp2
    all_goals (go_end0; exact ⟨rfl, HE.out⟩)
  | true =>
    have hneg := hk hH
    rw [hH] at hl hl2
    simp only [spotV, if_true] at hl hl2
    obtain ⟨t, ht⟩ : ∃ t, t = S (p * 4 + a) := ⟨_, rfl⟩
    obtain ⟨b, hb⟩ : ∃ b, b = Sh (p * 4 + a) := ⟨_, rfl⟩
    rw [← ht] at hneg hl hl2
    rw [← hb] at hl hl2
    obtain ⟨w', e1, e2, e3⟩ := hst (.cells #[.bool b, .int .i64 t] 37)
    have HE : Hid (mapSt w' mb (nb + 1) (upd H (p * 4 + a) true) (upd Sh (p * 4 + a) false) (upd S (p * 4 + a) (-1)) ∧ Oth w w' mb mb) := ⟨e2, e3⟩
    clear e2 e3 hst hm hk hb ht
    subst ho1
    have hneg' : ¬ 0 ≤ t := by omega
    go_enter Yba.func5, Yba.ntmps5
    go_wp2
    go_region
    all_goals go_wp2
    all_goals go_region
    all_goals go_wp2
    all_goals (go_end0; exact ⟨rfl, HE.out⟩)

set_option maxRecDepth 100000 in
set_option maxHeartbeats 2000000 in
/-- The tenancy t is marked. -/
theorem free_mark (bb mb tb nb n p a t : Nat) (cell : Nat → Value) (H Sh : Nat → Bool) (S : Nat → Int) (w : World) (hbb : blockIs w bb (bcells mb (.slice (some ⟨tb, 0, none⟩) n n)) 31) (hm : mapSt w mb nb H Sh S) (hnt : bb ≠ tb) (hmt : mb ≠ tb) (hnb : nb ≤ 2000) (hp : p < 4) (ha : a < 4)
    (hH : H (p * 4 + a) = true) (hS : S (p * 4 + a) = t) (ht : t < n) (hr : rowsAt w tb 34 1 (n * 7) (n * 7) cell) (hcb : ∃ x, cell (t * 7 + 2) = .bool x) :
    Calls Yba.prog 5 #[.pointer (some ⟨bb, 0, none⟩), .agg #[.int .u64 p, .int .u64 a]] w fun e w' => e = .returned (.tuple #[]) ∧ mapSt w' mb (nb + 1) (upd H (p * 4 + a) true) (upd Sh (p * 4 + a) false) (upd S (p * 4 + a) (-1)) ∧ Oth w w' mb tb ∧
      rowsAt w' tb 34 1 (n * 7) (n * 7) (fun j => if j = t * 7 + 2 then .bool true else cell j) := by
  obtain ⟨xb, hxb⟩ := hcb
  have hbl := hbb.lt
  have htl := hr.lt
  have b1 : ∀ o1, (w.alloc o1).cell? ⟨bb, 1, none⟩ = some (.map (some mb)) := fun o1 => (hbb.alloc o1).cellAt 1
  have b1' : ∀ o1 o2, ((w.alloc o1).alloc o2).cell? ⟨bb, 1, none⟩ = some (.map (some mb)) := fun o1 o2 => ((hbb.alloc o1).alloc o2).cellAt 1
  have b2 : ∀ o1 o2, ((w.alloc o1).alloc o2).cell? ⟨bb, 2, none⟩ = some (.slice (some ⟨tb, 0, none⟩) n n) := fun o1 o2 => ((hbb.alloc o1).alloc o2).cellAt 2
  have c2 : w.cell? ⟨tb, t * 7 + 2, none⟩ = some (.bool xb) := (hr.cellAt (by omega)).trans (by rw [hxb])
  have c2f : w.frozen? ⟨tb, t * 7 + 2, none⟩ = false := hr.free _
  have hb3 : blockIs (w.setCell ⟨tb, t * 7 + 2, none⟩ (.bool true)) bb (bcells mb (.slice (some ⟨tb, 0, none⟩) n n)) 31 := hbb.of_block (Below.heap_setCell _ _ _ _ hnt)
  have b3 : ∀ o1 o2, (((w.setCell ⟨tb, t * 7 + 2, none⟩ (.bool true)).alloc o1).alloc o2).cell? ⟨bb, 1, none⟩ = some (.map (some mb)) := fun o1 o2 => ((hb3.alloc o1).alloc o2).cellAt 1
  have hl : ∀ o1, (Instr.lookup 25 (.map (some mb)) (.agg #[.int .u64 p, .int .u64 a]) true).run Yba.prog (w.alloc o1).drew = _ := fun o1 => (hm.of_block (w' := (w.alloc o1).drew) (heap_alloc_old w o1 hm.lt)).look hp ha
  have hl2 : ∀ o1 o2, (Instr.lookup 25 (.map (some mb)) (.agg #[.int .u64 p, .int .u64 a]) true).run Yba.prog ((w.alloc o1).alloc o2).drew = _ := fun o1 o2 => (hm.of_block (w' := ((w.alloc o1).alloc o2).drew) ((heap_alloc_old _ o2 (by have := hm.lt; simp; omega)).trans (heap_alloc_old w o1 hm.lt))).look hp ha
  rw [hH, hS] at hl hl2
  simp only [spotV, if_true] at hl hl2
  obtain ⟨b, hb⟩ : ∃ b, b = Sh (p * 4 + a) := ⟨_, rfl⟩
  rw [← hb] at hl hl2
  have hm3 : mapSt (((w.setCell ⟨tb, t * 7 + 2, none⟩ (.bool true)).alloc (.cells #[.int .u64 p, .int .u64 a] 41)).alloc (.cells #[.bool b, .int .i64 t] 37)).drew.drew.drew mb nb H Sh S :=
    hm.of_block ((heap_alloc_old _ _ (by have := hm.lt; simp; omega)).trans ((heap_alloc_old _ _ (by have := hm.lt; simp; omega)).trans (Below.heap_setCell _ _ _ _ hmt)))
  obtain ⟨w', e1, e2, e3, e4, e5, e6, e7⟩ := hm3.store hnb hp ha false (-1)
  have HE : Hid (mapSt w' mb (nb + 1) (upd H (p * 4 + a) true) (upd Sh (p * 4 + a) false) (upd S (p * 4 + a) (-1)) ∧ Oth w w' mb tb ∧ rowsAt w' tb 34 1 (n * 7) (n * 7) (fun j => if j = t * 7 + 2 then .bool true else cell j)) := by
    refine ⟨e2, ⟨e4, e5, e6, by rw [e3]; simp; omega, fun k hk hk1 hk2 => ?_⟩, ?_⟩
    · exact (e7 k hk1).trans ((heap_alloc_old _ _ (by simp; omega)).trans ((heap_alloc_old _ _ (by simpa using hk)).trans (Below.heap_setCell _ _ _ _ hk2)))
    · exact (hr.store (t * 7 + 2) (.bool true)).of_block ((e7 tb (fun e => hmt e.symm)).trans ((heap_alloc_old _ _ (by simp; omega)).trans (heap_alloc_old _ _ (by simpa using htl))))
  have htI : (t : Int) < (n : Int) := by omega
  have ht0 : (0 : Int) ≤ (t : Int) := by omega
  clear e2 e3 e4 e5 e6 e7 hm3 hm hr hS hH hb
  go_enter Yba.func5, Yba.ntmps5
  go_wp2
  go_region
  all_goals go_wp2
  all_goals go_region
  all_goals go_wp2
  all_goals go_region
  all_goals go_wp2
  all_goals (go_end0; exact ⟨rfl, HE.out⟩)

end Go.Proofs.Ybulkgaq
