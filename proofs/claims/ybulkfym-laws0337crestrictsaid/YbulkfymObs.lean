/-
  The callees of LawS0337CRestrict, first part: the context, 'at', 'observed'.
-/
import Derived.Test.YbulkfymRows
import Derived.Test.YbulkfymMap
import Derived.Test.YbulkfymRow
import Derived.StringKeys
import Derived.Maps.Keyed
import Derived.WalkKit
import Derived.WalkSpells
import Derived.WalkLawsBesides
import Derived.Deep.QuietTactic
import Derived.BigQuiet
import Derived.Deep.RegionWith
namespace Go.Proofs.Ybulkfym
open Go.RowKit
open Go.Maps (Keyed)

/-- The map of the context: the count of each replica. -/
def ctxIs (w : World) (b : Nat) (V : ByteArray → Nat) : Prop :=
  ∃ n f sz, mapIs w Yba.prog 25 b n f sz ∧ ∀ r : ByteArray, (f (.string r.data.toList)).getD (.int .u64 0) = .int .u64 (V r)

theorem ctxIs.of_block {w w' : World} {b : Nat} {V : ByteArray → Nat} (h : ctxIs w b V) (e : w'.heap[b]? = w.heap[b]?) : ctxIs w' b V := by
  obtain ⟨n, f, sz, h1, h2⟩ := h
  exact ⟨n, f, sz, h1.of_block e, h2⟩
theorem ctxIs.lt {w : World} {b : Nat} {V : ByteArray → Nat} (h : ctxIs w b V) : b < w.heap.size := by
  obtain ⟨n, f, sz, h1, h2⟩ := h
  exact h1.lt
theorem ctxIs.below {w w' : World} {b B : Nat} {V : ByteArray → Nat} (h : ctxIs w b V) (hB : Below B w w') (hb : b < B) : ctxIs w' b V := h.of_block (hB.block b hb)

theorem ctxIs.look {w : World} {b : Nat} {V : ByteArray → Nat} (h : ctxIs w b V) {r : ByteArray} (hr : r.size ≤ maxLen) : (Instr.lookup 30 (.map (some b)) (.string r) false).run Yba.prog w = .ok (.int .u64 (V r)) w := by
  obtain ⟨n, f, sz, h1, h2⟩ := h
  rw [h1.look (Maps.string_keyed Yba.underlying25) Yba.underlying30 (z := .int .u64 0) (by kernel_rfl) (WideMaps.keyOf_string_mk Yba.underlying25 hr), h2]

theorem below_drewN {B : Nat} {a w : World} (h : Below B a w) (n : Nat) : Below B a (w.drewN n) := h.trans ⟨rfl, rfl, rfl, Nat.le_refl _, fun _ _ => rfl⟩

set_option maxHeartbeats 400000 in
theorem at_dot (r : ByteArray) (c : Int) (w : World) : Calls Yba.prog 39 #[.agg #[.string r, .int .u64 c]] w fun e w' => e = .returned (.agg #[.string r, .int .u64 c]) ∧ Below w.heap.size w w' := by
  go_enter Yba.func39, Yba.ntmps39
  go_wp2
  exact bodyPost_ret (v := .agg #[.string r, .int .u64 c]) (by simp [results, Yba.results39, go_sem]) rfl ⟨rfl, ((Below.refl _ _).alloc (Nat.le_refl _) _).alloc (by simp) _⟩

set_option maxHeartbeats 400000 in
theorem at_key (r s : ByteArray) (c : Int) (w : World) : Calls Yba.prog 41 #[.agg #[.string r, .int .u64 c, .string s, .int .u8 1]] w fun e w' => e = .returned (.agg #[.string r, .int .u64 c]) ∧ Below w.heap.size w w' := by
  go_enter Yba.func41, Yba.ntmps41
  go_wp2
  exact bodyPost_ret (v := .agg #[.string r, .int .u64 c]) (by simp [results, Yba.results41, go_sem]) rfl ⟨rfl, ((Below.refl _ _).alloc (Nat.le_refl _) _).alloc (by simp) _⟩

set_option maxHeartbeats 1000000 in
theorem bsearch_nil (r : ByteArray) (c : Int) (w : World) : Calls Yba.prog 15 #[.slice none 0 0, .agg #[.string r, .int .u64 c], .func (.func 16) #[] #[]] w fun e w' => e = .returned (.tuple #[.int .i64 0, .bool false]) ∧ Below w.heap.size w w' := by
  go_enter Yba.func15, Yba.ntmps15
  go_wp2
  refine wp_loop_rounds 1 ?_
  rw [rounds_succ]
  go_wp2
  go_quiet (fail)
  go_wp2
  go_ret2
  exact ⟨rfl, below_drewN ((Below.refl _ _).alloc (Nat.le_refl _) _) _⟩

set_option maxHeartbeats 1000000 in
theorem observed_any (b : Nat) (V : ByteArray → Nat) (r : ByteArray) (c : Nat) (w : World) (hm : ctxIs w b V) (hr : r.size ≤ maxLen) :
    Calls Yba.prog 11 #[.agg #[.map (some b), .slice none 0 0], .agg #[.string r, .int .u64 c]] w fun e w' => e = .returned (.bool (decide (c ≤ V r))) ∧ Below w.heap.size w w' := by
  have hl : ∀ o1 o2, (Instr.lookup 30 (.map (some b)) (.string r) false).run Yba.prog ((w.alloc o1).alloc o2) = .ok (.int .u64 (V r)) ((w.alloc o1).alloc o2) := fun o1 o2 =>
    (hm.below (((Below.refl _ _).alloc (Nat.le_refl _) o1).alloc (by simp) o2) hm.lt).look hr
  clear hm
  by_cases hc : c ≤ V r
  · have hd : decide (c ≤ V r) = true := by simp [hc]
    rw [hd]
    go_enter Yba.func11, Yba.ntmps11
    go_wp2
    go_ret
    exact ⟨rfl, ((Below.refl _ _).alloc (Nat.le_refl _) _).alloc (by simp) _⟩
  · have hd : decide (c ≤ V r) = false := by simp [hc]
    rw [hd]
    go_enter Yba.func11, Yba.ntmps11
    go_wp2_with (go_at_call 15; refine (bsearch_nil _ _ _).mono ?_; rintro e w' ⟨rfl, hb⟩)
    go_ret
    exact ⟨rfl, Below.trans (((Below.refl _ _).alloc (Nat.le_refl _) _).alloc (by simp) _) (hb.mono (by simp; omega))⟩

end Go.Proofs.Ybulkfym
