/-
  The callees of the two laws of package deferred (LawS0329BSameMark, LawS0329BKeepsApplied): a contract a function.
-/
import Derived.Test.YbulkfueRows
import Derived.Test.YbulkfueMap
import Derived.Test.YbulkfueKey
import Derived.Test.YbulkfueLocks
import Derived.Conc.MuLone
import Derived.WalkKit
import Derived.WalkSpells
import Derived.WalkLawsBesides
import Derived.Deep.QuietTactic
import Derived.BigQuiet
import Derived.Deep.RegionWith
namespace Go.Proofs.Ybulkfue
open Go.RowKit Go.MuLone
open Go.Maps (Keyed)

/-- zzs0329bsite. -/
def siteB (x : Int) : ByteArray := if x % 4 = 0 then ⟨#[97]⟩ else if x % 4 = 1 then ⟨#[98]⟩ else if x % 4 = 2 then ⟨#[]⟩ else ⟨#[115, 105, 116, 101]⟩

theorem siteB_small (x : Int) : (siteB x).size ≤ maxLen := by
  unfold siteB maxLen
  split
  · decide
  · split
    · decide
    · split <;> decide

set_option maxHeartbeats 400000 in
theorem site_any (x : Int) (w : World) (h0 : 0 ≤ x) (h1 : x ≤ 255) : Calls Yba.prog 19 #[.int .u8 x] w fun e w' => e = .returned (.string (siteB x)) ∧ w' = w := by
  rcases (show x % 4 = 0 ∨ x % 4 = 1 ∨ x % 4 = 2 ∨ x % 4 = 3 from by omega) with h | h | h | h
  all_goals
    have hS : siteB x = siteB x := rfl
    conv at hS => rhs; unfold siteB; simp only [h]
    rw [hS]
    clear hS
    go_enter Yba.func19, Yba.ntmps19
    go_wp2
    go_ret
    exact ⟨rfl, rfl⟩

set_option maxHeartbeats 400000 in
theorem sender_any (op st ep sq : Int) (w : World) (h0 : 0 ≤ st) (h1 : st ≤ 255) (h2 : 0 ≤ ep) :
    Calls Yba.prog 8 #[.agg #[.int .u8 op, .int .u8 st, .int .u8 ep, .int .u64 sq]] w fun e w' => e = .returned (.agg #[.string (siteB st), .int .u64 (ep % 3)]) ∧ Below w.heap.size w w' := by
  go_enter Yba.func8, Yba.ntmps8
  go_wp2
  go_region_with (go_at_call 19; refine (site_any st _ h0 h1).mono ?_; rintro e w' ⟨rfl, rfl⟩)
  all_goals go_wp2
  all_goals
    have he : IntKind.u64.wrap (ep.tmod 3) = ep % 3 := by
      rw [Int.tmod_eq_emod_of_nonneg h2]
      simp [IntKind.wrap, IntKind.bits, IntKind.signed]
      omega
    exact bodyPost_ret (v := .agg #[.string (siteB st), .int .u64 (ep % 3)]) (by rw [← he]; simp [results, Yba.results8, go_sem]) rfl ⟨rfl, (((Below.refl _ _).alloc (Nat.le_refl _) _).alloc (by simp) _).drew⟩

set_option maxHeartbeats 400000 in
theorem newInbox_any (w : World) : Calls Yba.prog 7 #[] w fun e w' => e = .returned (.pointer (some ⟨w.heap.size + 1, 0, none⟩)) ∧ w' = (w.alloc (.map #[] 0)).alloc (.cells #[.int .i32 0, .int .u32 0, .map (some w.heap.size)] 44) := by
  have hmm := @run_makeMap Yba.prog
  go_enter Yba.func7, Yba.ntmps7
  go_wp2
  go_ret
  exact ⟨rfl, rfl⟩

theorem Yba.zero33 (w : World) : (zeroValue 33).run Yba.prog w = .ok (.pointer none) w := by kernel_rfl

/-- The Inbox in block I, its lock free, its map in block M. -/
def InboxAt (w : World) (I M : Nat) : Prop := w.heap[I]? = some (.cells #[.int .i32 0, .int .u32 0, .map (some M)] 44 (0, 0))

/-- The lock taken, work done that turns nothing old but the lock's word, the lock given back. -/
theorem below_relock {w W : World} {I M : Nat} (hI : InboxAt w I M) (hW : Below w.heap.size (w.setCell ⟨I, 0, none⟩ (.int .i32 1)) W) : Below w.heap.size w (W.setCell ⟨I, 0, none⟩ (.int .i32 0)) := by
  have hI' : w.heap[I]? = some (.cells #[.int .i32 0, .int .u32 0, .map (some M)] 44 (0, 0)) := hI
  have hIlt : I < w.heap.size := (Array.getElem?_eq_some_iff.1 hI').1
  refine ⟨hW.os, hW.tape, hW.output, ?_, fun k hk => ?_⟩
  · have := hW.size
    simp [World.setCell] at this ⊢
    exact this
  · by_cases e : k = I
    · subst e
      have h1 := heap_setCell_same w k 0 _ _ (.int .i32 1) hI'
      have h2 := (hW.block k hk).trans h1
      rw [heap_setCell_same W k 0 _ _ (.int .i32 0) h2, hI']
      rfl
    · rw [Below.heap_setCell _ _ _ _ (fun h => e h), hW.block k hk, Below.heap_setCell _ _ _ _ (fun h => e h)]

set_option maxHeartbeats 1000000 in
theorem markOf_old (I M n sz : Nat) (f : Lit → Option Value) (s : ByteArray) (ep : Int) (p : Addr) (w : World) (hI : InboxAt w I M) (hM : mapIs w Yba.prog 29 M n f sz)
    (hs : s.size ≤ maxLen) (he : (Lit.int .u64 ep).wf = true) (hf : f (klit s ep) = some (.pointer (some p))) :
    Calls Yba.prog 9 #[.pointer (some ⟨I, 0, none⟩), .agg #[.string s, .int .u64 ep]] w fun e w' => e = .returned (.pointer (some p)) ∧ Below w.heap.size w w' := by
  have hIlt : I < w.heap.size := (Array.getElem?_eq_some_iff.1 hI).1
  have c0 : w.cell? ⟨I, 0, none⟩ = some (.int .i32 0) := cell_of_row _ _ _ _ _ _ hI
  have c2 : w.cell? ⟨I, 2, none⟩ = some (.map (some M)) := cell_of_row _ _ _ _ _ _ hI
  have f0 : w.frozen? ⟨I, 0, none⟩ = false := frozen_of_row _ _ _ _ _ hI
  have hne : I ≠ M := hM.ne_cells hI
  have hlook : ∀ k, (Instr.lookup 42 (.map (some M)) (.agg #[.string s, .int .u64 ep]) false).run Yba.prog (((w.setCell ⟨I, 0, none⟩ (.int .i32 1)).alloc (.cells #[.string s, .int .u64 ep] 29)).drewN k) = .ok (.pointer (some p)) (((w.setCell ⟨I, 0, none⟩ (.int .i32 1)).alloc (.cells #[.string s, .int .u64 ep] 29)).drewN k) := by
    intro k
    have h1 : mapIs (((w.setCell ⟨I, 0, none⟩ (.int .i32 1)).alloc (.cells #[.string s, .int .u64 ep] 29)).drewN k) Yba.prog 29 M n f sz := hM.of_block (by
      have h2 := Below.heap_alloc (w.setCell ⟨I, 0, none⟩ (.int .i32 1)) (.cells #[.string s, .int .u64 ep] 29) M (by simp [World.setCell]; exact hM.lt)
      have h3 := Below.heap_setCell w ⟨I, 0, none⟩ (.int .i32 1) M (fun h => hne h.symm)
      exact h2.trans h3)
    have := h1.look Yba.law29 Yba.underlying42 (Yba.zero33 _) (keyOf_sender s ep hs he)
    rw [this, hf]
    rfl
  have HI : Hid (InboxAt w I M) := hI
  clear hI hM hf
  go_enter_defers Yba.func9, Yba.ntmps9
  go_wp2_with (go_at_call 20; refine (lock_free Yba.muLib ⟨I, 0, none⟩ _ ?_ ?_).mono ?_; (simp [go_sem, *]); (simp [go_sem, *]); rintro e w' ⟨rfl, rfl⟩)
  go_quiet (fail)
  go_wp2_with fail
  refine leaves_cons (f := 21) (args := #[.pointer (some ⟨I, 0, none⟩)]) (by simp) (by simp [go_sem]) ?_
  refine (unlock_deferred Yba.muLib ⟨I, 0, none⟩ .returning _ ?_ ?_).mono ?_
  · simp [go_sem, hIlt]
    exact World.cell?_setCell_same w ⟨I, 0, none⟩ (.int .i32 1) c0
  · simp [go_sem, hIlt, f0]
  rintro e u' w'' ⟨rfl, rfl, rfl⟩
  exact ⟨_, results_tmp rfl _ _ _, rfl, below_relock HI.out (below_drewN ((Below.refl _ _).alloc (by simp [World.setCell]) _) _)⟩

/-- The world behind a store into the map in block M: all old blocks but M are as they were. -/
structure ButM (M : Nat) (w w' : World) : Prop where
  os : w'.os = w.os
  tape : w'.tape = w.tape
  output : w'.output = w.output
  size : w.heap.size ≤ w'.heap.size
  block : ∀ k, k < w.heap.size → k ≠ M → w'.heap[k]? = w.heap[k]?

/-- The blocks of the world in which the map is written (ahead of the store). -/
theorem laid_blocks (w : World) (a : Addr) (u : Value) (X Y : Obj) (nq : Nat) :
    ((((w.setCell a u).alloc X).drewN nq).alloc Y).drew.heap.size = w.heap.size + 2 ∧ ((((w.setCell a u).alloc X).drewN nq).alloc Y).drew.heap[w.heap.size + 1]? = some Y ∧
      ∀ i, i < w.heap.size → ((((w.setCell a u).alloc X).drewN nq).alloc Y).drew.heap[i]? = (w.setCell a u).heap[i]? := by
  have hz : (w.setCell a u).heap.size = w.heap.size := by simp [World.setCell]
  refine ⟨?_, ?_, ?_⟩
  · show (((w.setCell a u).heap.push X).push Y).size = _
    simp [hz]
  · show (((w.setCell a u).heap.push X).push Y)[w.heap.size + 1]? = _
    rw [Array.getElem?_push, if_pos (by simp [hz])]
  · intro i hi
    show (((w.setCell a u).heap.push X).push Y)[i]? = _
    rw [Array.getElem?_push, if_neg (by simp [hz]; omega), Array.getElem?_push, if_neg (by omega)]

/-- What the end of markOf's second way comes to. -/
theorem new_end {w w2 : World} {I M nq : Nat} {X Y : Obj} (hI : InboxAt w I M) (hne : I ≠ M) (hMlt : M < w.heap.size)
    (hz : w2.heap.size = ((((w.setCell ⟨I, 0, none⟩ (.int .i32 1)).alloc X).drewN nq).alloc Y).drew.heap.size) (ho : w2.os = w.os) (ht : w2.tape = w.tape) (hp : w2.output = w.output)
    (hb : ∀ i, i ≠ M → w2.heap[i]? = ((((w.setCell ⟨I, 0, none⟩ (.int .i32 1)).alloc X).drewN nq).alloc Y).drew.heap[i]?) :
    w2.cell? ⟨I, 0, none⟩ = some (.int .i32 1) ∧ w2.frozen? ⟨I, 0, none⟩ = false ∧ (w2.setCell ⟨I, 0, none⟩ (.int .i32 0)).heap[w.heap.size + 1]? = some Y ∧
      (w2.setCell ⟨I, 0, none⟩ (.int .i32 0)).heap[M]? = w2.heap[M]? ∧ ButM M w (w2.setCell ⟨I, 0, none⟩ (.int .i32 0)) := by
  have hI' : w.heap[I]? = some (.cells #[.int .i32 0, .int .u32 0, .map (some M)] 44 (0, 0)) := hI
  have hIlt : I < w.heap.size := (Array.getElem?_eq_some_iff.1 hI').1
  obtain ⟨l1, l2, l3⟩ := laid_blocks w ⟨I, 0, none⟩ (.int .i32 1) X Y nq
  have h1 := heap_setCell_same w I 0 _ _ (.int .i32 1) hI'
  have h2 : w2.heap[I]? = some (.cells #[.int .i32 1, .int .u32 0, .map (some M)] 44 (0, 0)) := (hb I hne).trans ((l3 I hIlt).trans h1)
  refine ⟨cell_of_row _ _ _ _ _ _ h2, frozen_of_row _ _ _ _ _ h2, ?_, Below.heap_setCell _ _ _ _ (fun h => hne h.symm), ho, ht, hp, ?_, ?_⟩
  · rw [Below.heap_setCell _ _ _ _ (fun h => by simp at h; omega), hb _ (by omega)]
    exact l2
  · simp only [World.setCell, Array.size_modify]
    omega
  · intro k hk hkM
    by_cases e : k = I
    · subst e
      rw [heap_setCell_same w2 k 0 _ _ (.int .i32 0) h2, hI']
      rfl
    · rw [Below.heap_setCell _ _ _ _ (fun h => e h), hb k hkM, l3 k hk, Below.heap_setCell _ _ _ _ (fun h => e h)]

open Classical in
set_option maxHeartbeats 1000000 in
theorem markOf_new (I M n sz : Nat) (f : Lit → Option Value) (s : ByteArray) (ep : Int) (w : World) (hI : InboxAt w I M) (hM : mapIs w Yba.prog 29 M n f sz)
    (hs : s.size ≤ maxLen) (he : (Lit.int .u64 ep).wf = true) (hn : n < maxLen) (hf : f (klit s ep) = none) :
    Calls Yba.prog 9 #[.pointer (some ⟨I, 0, none⟩), .agg #[.string s, .int .u64 ep]] w fun e w' => ∃ q, e = .returned (.pointer (some ⟨q, 0, none⟩)) ∧ w.heap.size ≤ q ∧
      w'.heap[q]? = some (.cells #[.int .i32 0, .int .u32 0, .int .u64 0] 46 (0, 0)) ∧ mapIs w' Yba.prog 29 M (n + 1) (fun x => if x = klit s ep then some (.pointer (some ⟨q, 0, none⟩)) else f x) (sz + 1) ∧ ButM M w w' := by
  have hIlt : I < w.heap.size := (Array.getElem?_eq_some_iff.1 hI).1
  have c0 : w.cell? ⟨I, 0, none⟩ = some (.int .i32 0) := cell_of_row _ _ _ _ _ _ hI
  have c2 : w.cell? ⟨I, 2, none⟩ = some (.map (some M)) := cell_of_row _ _ _ _ _ _ hI
  have f0 : w.frozen? ⟨I, 0, none⟩ = false := frozen_of_row _ _ _ _ _ hI
  have hne : I ≠ M := hM.ne_cells hI
  have hM1 : mapIs ((w.setCell ⟨I, 0, none⟩ (.int .i32 1)).alloc (.cells #[.string s, .int .u64 ep] 29)) Yba.prog 29 M n f sz := hM.of_block (by
      have h2 := Below.heap_alloc (w.setCell ⟨I, 0, none⟩ (.int .i32 1)) (.cells #[.string s, .int .u64 ep] 29) M (by simp [World.setCell]; exact hM.lt)
      have h3 := Below.heap_setCell w ⟨I, 0, none⟩ (.int .i32 1) M (fun h => hne h.symm)
      exact h2.trans h3)
  have hlook : ∀ k, (Instr.lookup 42 (.map (some M)) (.agg #[.string s, .int .u64 ep]) false).run Yba.prog (((w.setCell ⟨I, 0, none⟩ (.int .i32 1)).alloc (.cells #[.string s, .int .u64 ep] 29)).drewN k) = .ok (.pointer none) (((w.setCell ⟨I, 0, none⟩ (.int .i32 1)).alloc (.cells #[.string s, .int .u64 ep] 29)).drewN k) := by
    intro k
    have h1 : mapIs (((w.setCell ⟨I, 0, none⟩ (.int .i32 1)).alloc (.cells #[.string s, .int .u64 ep] 29)).drewN k) Yba.prog 29 M n f sz := hM1
    have := h1.look Yba.law29 Yba.underlying42 (Yba.zero33 _) (keyOf_sender s ep hs he)
    rw [this, hf]
    rfl
  have HI : Hid (InboxAt w I M ∧ mapIs w Yba.prog 29 M n f sz ∧ f (klit s ep) = none) := ⟨hI, hM, hf⟩
  have HM1 : Hid (mapIs ((w.setCell ⟨I, 0, none⟩ (.int .i32 1)).alloc (.cells #[.string s, .int .u64 ep] 29)) Yba.prog 29 M n f sz) := hM1
  clear hI hM hf hM1
  go_enter_defers Yba.func9, Yba.ntmps9
  go_wp2_with (go_at_call 20; refine (lock_free Yba.muLib ⟨I, 0, none⟩ _ ?_ ?_).mono ?_; (simp [go_sem, *]); (simp [go_sem, *]); rintro e w' ⟨rfl, rfl⟩)
  go_quiet (fail)
  go_wp2_with fail
  have hM2 : mapIs ((((w.setCell ⟨I, 0, none⟩ (.int .i32 1)).alloc (.cells #[.string s, .int .u64 ep] 29)).drewN nq).alloc (.cells #[.int .i32 0, .int .u32 0, .int .u64 0] 46)).drew Yba.prog 29 M n f sz :=
    HM1.out.of_block (Below.heap_alloc _ _ M HM1.out.lt)
  obtain ⟨w2, hst, hM3, hz2, ho2, ht2, hp2, hb2⟩ := hM2.store Yba.law29 Yba.underlying42 hn (key := .agg #[.string s, .int .u64 ep]) (val := .pointer (some ⟨w.heap.size + 1, 0, none⟩)) (keyOf_sender s ep hs he)
  have H2 : Hid (mapIs w2 Yba.prog 29 M (n + 1) (fun x => if x = klit s ep then some (.pointer (some ⟨w.heap.size + 1, 0, none⟩)) else f x) (if (f (klit s ep)).isSome then sz else sz + 1)) := hM3
  have HB2 : Hid (w2.heap.size = ((((w.setCell ⟨I, 0, none⟩ (.int .i32 1)).alloc (.cells #[.string s, .int .u64 ep] 29)).drewN nq).alloc (.cells #[.int .i32 0, .int .u32 0, .int .u64 0] 46)).drew.heap.size ∧ w2.os = w.os ∧ w2.tape = w.tape ∧ w2.output = w.output ∧
      ∀ i, i ≠ M → w2.heap[i]? = ((((w.setCell ⟨I, 0, none⟩ (.int .i32 1)).alloc (.cells #[.string s, .int .u64 ep] 29)).drewN nq).alloc (.cells #[.int .i32 0, .int .u32 0, .int .u64 0] 46)).drew.heap[i]?) := ⟨hz2, ho2, ht2, hp2, hb2⟩
  clear hM2 hM3 hz2 ho2 ht2 hp2 hb2
  go_region
  go_wp2_with fail
  obtain ⟨hz2, ho2, ht2, hp2, hb2⟩ := HB2.out
  obtain ⟨hI, hM, hf⟩ := HI.out
  obtain ⟨e1, e2, e3, e4, e5⟩ := new_end hI hne hM.lt hz2 ho2 ht2 hp2 hb2
  refine leaves_cons (f := 21) (args := #[.pointer (some ⟨I, 0, none⟩)]) (by simp) (by simp [go_sem]) ?_
  refine (unlock_deferred Yba.muLib ⟨I, 0, none⟩ .returning _ e1 e2).mono ?_
  rintro e u' w'' ⟨rfl, rfl, rfl⟩
  refine ⟨_, results_tmp rfl _ _ _, w.heap.size + 1, rfl, by omega, e3, ?_, e5⟩
  have h3 := H2.out
  rw [hf] at h3
  exact h3.of_block e4
end Go.Proofs.Ybulkfue
