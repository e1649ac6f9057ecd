/-
  (*Inbox).Applied, out of markOf's contract.
-/
import Derived.Test.YbulkfueBBase
import Derived.Test.YbulkfueRow
namespace Go.Proofs.Ybulkfue
open Go.RowKit Go.MuLone

/-- The block of a mark. -/
def markBlock (v : Int) : Obj := .cells #[.int .i32 0, .int .u32 0, .int .u64 v] 46 (0, 0)

/-- w' is w but for one block. -/
structure ButB (q : Nat) (w w' : World) : Prop where
  os : w'.os = w.os
  tape : w'.tape = w.tape
  output : w'.output = w.output
  size : w'.heap.size = w.heap.size
  block : ∀ k, k ≠ q → w'.heap[k]? = w.heap[k]?

/-- What Applied leaves: the mark's number is raised; all else is as markOf left it. -/
theorem applied_end {w1 : World} {I M q : Nat} {v x : Int} (hI : InboxAt w1 I M) (hq : w1.heap[q]? = some (markBlock v)) (hne : q ≠ I) :
    (((w1.setCell ⟨I, 0, none⟩ (.int .i32 1)).setCell ⟨q, 2, none⟩ (.int .u64 x)).setCell ⟨I, 0, none⟩ (.int .i32 0)).heap[q]? = some (markBlock x) ∧
      ButB q w1 (((w1.setCell ⟨I, 0, none⟩ (.int .i32 1)).setCell ⟨q, 2, none⟩ (.int .u64 x)).setCell ⟨I, 0, none⟩ (.int .i32 0)) := by
  have hI' : w1.heap[I]? = some (.cells #[.int .i32 0, .int .u32 0, .map (some M)] 44 (0, 0)) := hI
  refine ⟨?_, rfl, rfl, rfl, by simp [World.setCell], fun k hk => ?_⟩
  · rw [Below.heap_setCell _ _ _ _ (fun h => hne h)]
    have h1 : (w1.setCell ⟨I, 0, none⟩ (.int .i32 1)).heap[q]? = some (.cells #[.int .i32 0, .int .u32 0, .int .u64 v] 46 (0, 0)) := (Below.heap_setCell _ _ _ _ (fun h => hne h)).trans hq
    rw [heap_setCell_same _ q 2 _ _ (.int .u64 x) h1]
    rfl
  · by_cases e : k = I
    · subst e
      have h1 := heap_setCell_same w1 k 0 _ _ (.int .i32 1) hI'
      have h2 := (Below.heap_setCell (w1.setCell ⟨k, 0, none⟩ (.int .i32 1)) ⟨q, 2, none⟩ (.int .u64 x) k (fun h => hk h)).trans h1
      rw [heap_setCell_same _ k 0 _ _ (.int .i32 0) h2, hI']
      rfl
    · rw [Below.heap_setCell _ _ _ _ (fun h => e h), Below.heap_setCell _ _ _ _ (fun h => hk h), Below.heap_setCell _ _ _ _ (fun h => e h)]

set_option maxHeartbeats 1000000 in
theorem applied_any (I M : Nat) (s : ByteArray) (ep seq : Int) (w : World) (R : Nat → Int → World → Prop)
    (hC : Calls Yba.prog 9 #[.pointer (some ⟨I, 0, none⟩), .agg #[.string s, .int .u64 ep]] (w.alloc (.cells #[.string s, .int .u64 ep] 29)) fun e w1 => ∃ q v, e = .returned (.pointer (some ⟨q, 0, none⟩)) ∧ R q v w1 ∧ InboxAt w1 I M ∧ w1.heap[q]? = some (markBlock v) ∧ q ≠ I) :
    Calls Yba.prog 10 #[.pointer (some ⟨I, 0, none⟩), .agg #[.string s, .int .u64 ep], .int .u64 seq] w fun e w' => e = .returned (.tuple #[]) ∧ ∃ q v w1, R q v w1 ∧ w'.heap[q]? = some (markBlock (if v < seq then seq else v)) ∧ ButB q w1 w' := by
  go_enter_defers Yba.func10, Yba.ntmps10
  go_wp2_with fail
  refine hC.mono ?_
  rintro e w1 ⟨q, v, rfl, hR, hI, hq, hne⟩
  have c0 : w1.cell? ⟨I, 0, none⟩ = some (.int .i32 0) := cell_of_row _ _ _ _ _ _ hI
  have f0 : w1.frozen? ⟨I, 0, none⟩ = false := frozen_of_row _ _ _ _ _ hI
  have cq : w1.cell? ⟨q, 2, none⟩ = some (.int .u64 v) := cell_of_row _ _ _ _ _ _ hq
  have fq : w1.frozen? ⟨q, 2, none⟩ = false := frozen_of_row _ _ _ _ _ hq
  have HH : Hid (R q v w1 ∧ InboxAt w1 I M ∧ w1.heap[q]? = some (markBlock v) ∧ q ≠ I) := ⟨hR, hI, hq, hne⟩
  have hneI : ¬ I = q := fun h => hne h.symm
  clear hR hI hq hC
  go_wp2_with (go_at_call 20; refine (lock_free Yba.muLib ⟨I, 0, none⟩ _ c0 f0).mono ?_; rintro e w' ⟨rfl, rfl⟩)
  all_goals
    obtain ⟨hR, hI, hq, hne'⟩ := HH.out
    refine leaves_cons (f := 21) (args := #[.pointer (some ⟨I, 0, none⟩)]) (by simp) (by simp [go_sem]) ?_
    refine (unlock_deferred Yba.muLib ⟨I, 0, none⟩ .returning _ ?_ ?_).mono ?_
    · exact (World.cell?_setCell_other _ ⟨q, 2, none⟩ ⟨I, 0, none⟩ _ (fun h => hne (by injection h))).trans (World.cell?_setCell_same w1 ⟨I, 0, none⟩ (.int .i32 1) c0)
    · simp [f0]
    rintro e u' w'' ⟨rfl, rfl, rfl⟩
  · exact ⟨_, results_none rfl _ _ _, rfl, q, v, w1, HH.out.1, by rw [if_pos (by omega)]; exact (applied_end HH.out.2.1 HH.out.2.2.1 hne).1, (applied_end HH.out.2.1 HH.out.2.2.1 hne).2⟩
  · exact ⟨_, results_none rfl _ _ _, rfl, q, v, w1, HH.out.1, by rw [if_neg (by omega)]; exact (applied_end HH.out.2.1 HH.out.2.2.1 hne).1, (applied_end HH.out.2.1 HH.out.2.2.1 hne).2⟩
end Go.Proofs.Ybulkfue
