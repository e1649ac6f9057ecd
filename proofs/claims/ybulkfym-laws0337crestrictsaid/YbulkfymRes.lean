/-
  The callees of LawS0337CRestrict, sixth part: the stand-in value's methods holdsDots, restrict, restrictInto.
-/
import Derived.Test.YbulkfymIdx
import Derived.RegionTactic
namespace Go.Proofs.Ybulkfym
open Go.RowKit
open Go.Maps (Keyed)

/-- Block g holds the cells cs, none frozen. -/
def blockIs (w : World) (g : Nat) (cs : Array Value) (t : TypeId) : Prop := w.heap[g]? = some (.cells cs t (0, 0))

theorem blockIs.cellAt {w : World} {g : Nat} {cs : Array Value} {t : TypeId} (h : blockIs w g cs t) (j : Nat) : w.cell? ⟨g, j, none⟩ = cs[j]? := cell_of_row _ _ _ _ _ _ h
theorem blockIs.free {w : World} {g : Nat} {cs : Array Value} {t : TypeId} (h : blockIs w g cs t) (j : Nat) : w.frozen? ⟨g, j, none⟩ = false := frozen_of_row _ _ _ _ _ h
theorem blockIs.lt {w : World} {g : Nat} {cs : Array Value} {t : TypeId} (h : blockIs w g cs t) : g < w.heap.size := (Array.getElem?_eq_some_iff.1 h).1
theorem blockIs.store {w : World} {g : Nat} {cs : Array Value} {t : TypeId} (h : blockIs w g cs t) (i : Nat) (v : Value) : blockIs (w.setCell ⟨g, i, none⟩ v) g (cs.setIfInBounds i v) t :=
  heap_setCell_same w g i cs t v h
theorem blockIs.alloc {w : World} {g : Nat} {cs : Array Value} {t : TypeId} (h : blockIs w g cs t) (o : Obj) : blockIs (w.alloc o) g cs t := (heap_alloc_old w o h.lt).trans h
theorem blockIs.of_block {w w' : World} {g : Nat} {cs : Array Value} {t : TypeId} (h : blockIs w g cs t) (e : w'.heap[g]? = w.heap[g]?) : blockIs w' g cs t := e.trans h
theorem blockIs_new (w : World) (cs : Array Value) (t : TypeId) : blockIs (w.alloc (.cells cs t)) w.heap.size cs t := heap_alloc_new w _

theorem blockIs_newAt {w w' : World} {n : Nat} {cs : Array Value} {t : TypeId} (hw : w'.heap = (w.alloc (.cells cs t)).heap) (hn : n = w.heap.size) : blockIs w' n cs t := by
  unfold blockIs
  rw [hw, hn]
  exact blockIs_new w cs t

theorem grown_set (w : World) (g i : Nat) (v : Value) : w.grownBy (w.setCell ⟨g, i, none⟩ v) (some g) :=
  ⟨rfl, rfl, rfl, by simp, fun k _ hk => Below.heap_setCell _ _ _ _ (fun e => hk (by rw [e]))⟩
theorem grown_trans {a b c : World} {row : Option Nat} (h : a.grownBy b row) (k : b.grownBy c row) : a.grownBy c row :=
  ⟨k.os.trans h.os, k.tape.trans h.tape, k.output.trans h.output, Nat.le_trans h.size k.size, fun i hi hr => (k.block i (Nat.lt_of_lt_of_le hi h.size) hr).trans (h.block i hi hr)⟩
theorem grown_drew {a b : World} {row : Option Nat} (h : a.grownBy b row) : a.grownBy b.drew row := ⟨h.os, h.tape, h.output, h.size, h.block⟩

set_option maxHeartbeats 1000000 in
theorem holds_any (g : Nat) (o : Bool) (w : World) (h0 : w.cell? ⟨g, 0, none⟩ = some (.bool o)) : Calls Yba.prog 42 #[.pointer (some ⟨g, 0, none⟩)] w fun e w' => e = .returned (.bool o) ∧ w' = w := by
  go_enter Yba.func42, Yba.ntmps42
  go_wp2
  go_ret
  exact ⟨rfl, rfl⟩

set_option maxRecDepth 100000 in
set_option maxHeartbeats 1000000 in
theorem restrict_any (gv gr : Nat) (o : Bool) (c : Value) (w : World) (hbv : gv < w.heap.size)
    (v2 : w.cell? ⟨gv, 2, none⟩ = some (.pointer (some ⟨gr, 0, none⟩))) (hr : blockIs w gr #[.bool o, .int .i64 0, .int .i64 0, .slice none 0 0, .bool false] 48) :
    Calls Yba.prog 43 #[.pointer (some ⟨gv, 0, none⟩), .agg #[c, .slice none 0 0]] w fun e w' => (∃ g', e = .returned (.iface 50 (.pointer (some ⟨g', 0, none⟩))) ∧ w.heap.size ≤ g' ∧ blockIs w' g' #[.bool o, .bool true, .pointer (some ⟨gr, 0, none⟩)] 52) ∧
      blockIs w' gr #[.bool o, .int .i64 1, .int .i64 0, .slice none 0 0, .bool false] 48 ∧ w.grownBy w' (some gr) := by
  have r0 : w.cell? ⟨gr, 0, none⟩ = some (.bool o) := hr.cellAt 0
  have r1 : w.cell? ⟨gr, 1, none⟩ = some (.int .i64 0) := hr.cellAt 1
  have rf : w.frozen? ⟨gr, 1, none⟩ = false := hr.free 1
  have hb := hr.lt
  have HR := hr.store 1 (.int .i64 1)
  have HG := grown_set w gr 1 (.int .i64 1)
  go_enter Yba.func43, Yba.ntmps43
  go_wp2
  go_region
  all_goals go_wp2
  all_goals go_ret
  all_goals exact ⟨⟨_, rfl, by simp, blockIs_newAt rfl (by simp)⟩, (HR.alloc _).alloc _, grown_drew (grown_trans (grown_trans HG (World.grownBy_alloc _ _ _)) (World.grownBy_alloc _ _ _))⟩

set_option maxRecDepth 100000 in
set_option maxHeartbeats 2000000 in
theorem into_any (gv gr : Nat) (o : Bool) (c : Value) (ao : Option Addr) (nk ck : Nat) (w : World) (hne : gv ≠ gr) (hbv : gv < w.heap.size)
    (v2 : w.cell? ⟨gv, 2, none⟩ = some (.pointer (some ⟨gr, 0, none⟩))) (hr : blockIs w gr #[.bool o, .int .i64 0, .int .i64 0, .slice none 0 0, .bool false] 48) :
    Calls Yba.prog 44 #[.pointer (some ⟨gv, 0, none⟩), .nilIface, .agg #[c, .slice none 0 0], .slice ao nk ck] w fun e w' => (∃ g', e = .returned (.iface 50 (.pointer (some ⟨g', 0, none⟩))) ∧ w.heap.size ≤ g' ∧ blockIs w' g' #[.bool o, .bool true, .pointer (some ⟨gr, 0, none⟩)] 52) ∧
      blockIs w' gr #[.bool o, .int .i64 0, .int .i64 1, .slice ao nk ck, .bool true] 48 ∧ w.grownBy w' (some gr) := by
  have r0 : w.cell? ⟨gr, 0, none⟩ = some (.bool o) := hr.cellAt 0
  have r2 : w.cell? ⟨gr, 2, none⟩ = some (.int .i64 0) := hr.cellAt 2
  have r3 : w.cell? ⟨gr, 3, none⟩ = some (.slice none 0 0) := hr.cellAt 3
  have r4 : w.cell? ⟨gr, 4, none⟩ = some (.bool false) := hr.cellAt 4
  have rf : ∀ j, w.frozen? ⟨gr, j, none⟩ = false := hr.free
  have hb := hr.lt
  have HR := ((hr.store 2 (.int .i64 1)).store 3 (.slice ao nk ck)).store 4 (.bool true)
  have HG := grown_trans (grown_trans (grown_set w gr 2 (.int .i64 1)) (grown_set _ gr 3 (.slice ao nk ck))) (grown_set _ gr 4 (.bool true))
  go_enter Yba.func44, Yba.ntmps44
  go_wp2
  go_region
  all_goals go_wp2
  all_goals go_region
  all_goals go_wp2
  all_goals go_ret
  all_goals exact ⟨⟨_, rfl, by simp, blockIs_newAt rfl (by simp)⟩, (HR.alloc _).alloc _, grown_drew (grown_drew (grown_trans (grown_trans HG (World.grownBy_alloc _ _ _)) (World.grownBy_alloc _ _ _)))⟩

end Go.Proofs.Ybulkfym
