/-
  The callees of LawS0337CRestrict, second part: the closures, slices.IndexFunc, slices.ContainsFunc, observedIn, slices.Equal.
-/
import Derived.Test.YbulkfymObs
import Derived.Test.YbulkfymNames
namespace Go.Proofs.Ybulkfym
open Go.RowKit
open Go.Maps (Keyed)

set_option maxRecDepth 100000 in
set_option maxHeartbeats 1000000 in
theorem closure_dot (p b : Nat) (V : ByteArray → Nat) (r : ByteArray) (c : Nat) (w : World) (hm : ctxIs w b V) (hr : r.size ≤ maxLen) (h0 : w.cell? ⟨p, 0, none⟩ = some (.map (some b))) (h1 : w.cell? ⟨p, 1, none⟩ = some (.slice none 0 0)) :
    Calls Yba.prog 10 #[.agg #[.string r, .int .u64 c], .pointer (some ⟨p, 0, none⟩)] w fun e w' => e = .returned (.bool (!decide (c ≤ V r))) ∧ Below w.heap.size w w' := by
  have hp : p < w.heap.size := World.block_lt_of_cell? w _ h0
  have g0 : ∀ o, (w.alloc o).cell? ⟨p, 0, none⟩ = some (.map (some b)) := fun o => ((Below.refl _ w).alloc (Nat.le_refl _) o).cell hp |>.trans h0
  have g1 : ∀ o, (w.alloc o).cell? ⟨p, 1, none⟩ = some (.slice none 0 0) := fun o => ((Below.refl _ w).alloc (Nat.le_refl _) o).cell hp |>.trans h1
  have hat := method_at_dot
  conv at hat in nameOf _ _ => whnf
  go_enter Yba.func10, Yba.ntmps10
  go_wp2
  go_region_with (first
    | (go_at_call 39; refine (at_dot _ _ _).mono ?_; rintro e w1 ⟨rfl, hb⟩
       have hb1 : Below w.heap.size w w1 := Below.trans ((Below.refl _ _).alloc (Nat.le_refl _) _).drew (hb.mono (by simp))
       have k0 : w1.cell? ⟨p, 0, none⟩ = some (.map (some b)) := (hb1.cell hp).trans h0
       have k1 : w1.cell? ⟨p, 1, none⟩ = some (.slice none 0 0) := (hb1.cell hp).trans h1
       have hm1 : ctxIs w1 b V := hm.below hb1 hm.lt)
    | (go_at_call 11; refine (observed_any b V r c _ hm1 hr).mono ?_; rintro e w2 ⟨rfl, hb2⟩))
  all_goals go_wp2
  all_goals go_ret
  all_goals exact ⟨rfl, hb1.trans (hb2.mono hb1.size)⟩

set_option maxRecDepth 100000 in
set_option maxHeartbeats 1000000 in
theorem closure_key (p b : Nat) (V : ByteArray → Nat) (r s : ByteArray) (c : Nat) (w : World) (hm : ctxIs w b V) (hr : r.size ≤ maxLen) (h0 : w.cell? ⟨p, 0, none⟩ = some (.map (some b))) (h1 : w.cell? ⟨p, 1, none⟩ = some (.slice none 0 0)) :
    Calls Yba.prog 13 #[.agg #[.string r, .int .u64 c, .string s, .int .u8 1], .pointer (some ⟨p, 0, none⟩)] w fun e w' => e = .returned (.bool (!decide (c ≤ V r))) ∧ Below w.heap.size w w' := by
  have hp : p < w.heap.size := World.block_lt_of_cell? w _ h0
  have g0 : ∀ o, (w.alloc o).cell? ⟨p, 0, none⟩ = some (.map (some b)) := fun o => ((Below.refl _ w).alloc (Nat.le_refl _) o).cell hp |>.trans h0
  have g1 : ∀ o, (w.alloc o).cell? ⟨p, 1, none⟩ = some (.slice none 0 0) := fun o => ((Below.refl _ w).alloc (Nat.le_refl _) o).cell hp |>.trans h1
  have hat := method_at_key
  conv at hat in nameOf _ _ => whnf
  go_enter Yba.func13, Yba.ntmps13
  go_wp2
  go_region_with (first
    | (go_at_call 41; refine (at_key _ _ _ _).mono ?_; rintro e w1 ⟨rfl, hb⟩
       have hb1 : Below w.heap.size w w1 := Below.trans ((Below.refl _ _).alloc (Nat.le_refl _) _).drew (hb.mono (by simp))
       have k0 : w1.cell? ⟨p, 0, none⟩ = some (.map (some b)) := (hb1.cell hp).trans h0
       have k1 : w1.cell? ⟨p, 1, none⟩ = some (.slice none 0 0) := (hb1.cell hp).trans h1
       have hm1 : ctxIs w1 b V := hm.below hb1 hm.lt)
    | (go_at_call 11; refine (observed_any b V r c _ hm1 hr).mono ?_; rintro e w2 ⟨rfl, hb2⟩))
  all_goals go_wp2
  all_goals go_ret
  all_goals exact ⟨rfl, hb1.trans (hb2.mono hb1.size)⟩

end Go.Proofs.Ybulkfym
