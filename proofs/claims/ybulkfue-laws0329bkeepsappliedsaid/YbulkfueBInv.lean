/-
  LawS0329BSameMark: what holds at every round's head, and what one call of markOf does to it.
-/
import Derived.Test.YbulkfueBBase
import Derived.Test.YbulkfueRow
namespace Go.Proofs.Ybulkfue
open Go.RowKit

def cellS (sS : Nat → ByteArray) (sE : Nat → Int) (j : Nat) : Value := if j % 2 = 0 then .string (sS (j / 2)) else .int .u64 (sE (j / 2))
def cellM (mk : Nat → Nat) (j : Nat) : Value := .pointer (some ⟨mk j, 0, none⟩)

theorem cellS_even (sS : Nat → ByteArray) (sE : Nat → Int) (j : Nat) : cellS sS sE (j * 2) = .string (sS j) := by simp [cellS]
theorem cellS_odd (sS : Nat → ByteArray) (sE : Nat → Int) (j : Nat) : cellS sS sE (j * 2 + 1) = .int .u64 (sE j) := by
  have h1 : (j * 2 + 1) % 2 = 1 := by omega
  have h2 : (j * 2 + 1) / 2 = j := by omega
  simp [cellS, h1, h2]

structure SInv (w0 wr : World) (n : Nat) (sS : Nat → ByteArray) (sE : Nat → Int) (k kr d : Nat) (f : Lit → Option Value) (mk : Nat → Nat) : Prop where
  below : Below w0.heap.size w0 wr
  inbox : InboxAt wr (w0.heap.size + 1) w0.heap.size
  map : mapIs wr Yba.prog 29 w0.heap.size k f d
  rowS : rowsAt wr (w0.heap.size + 2) 29 2 n kr (cellS sS sE)
  rowM : rowsAt wr (w0.heap.size + 3) 33 1 n kr (cellM mk)
  hit : ∀ j, j < k → f (klit (sS j) (sE j)) = some (.pointer (some ⟨mk j, 0, none⟩))
  supp : ∀ x, f x ≠ none → ∃ j, j < k ∧ x = klit (sS j) (sE j)
  marks : ∀ j, j < k → w0.heap.size + 4 ≤ mk j ∧ wr.heap[mk j]? = some (.cells #[.int .i32 0, .int .u32 0, .int .u64 0] 46 (0, 0))
  inj : ∀ i, i < k → ∀ j, j < k → mk i = mk j → klit (sS i) (sE i) = klit (sS j) (sE j)

section
variable {w0 wr : World} {n : Nat} {sS : Nat → ByteArray} {sE : Nat → Int} {k kr d : Nat} {f : Lit → Option Value} {mk : Nat → Nat}

theorem SInv.size (h : SInv w0 wr n sS sE k kr d f mk) : w0.heap.size + 3 < wr.heap.size := h.rowM.lt

/-- New blocks, draws: nothing of it turns. -/
theorem SInv.of_below {w' : World} (h : SInv w0 wr n sS sE k kr d f mk) (hb : Below wr.heap.size wr w') : SInv w0 w' n sS sE k kr d f mk := by
  have hs := h.size
  refine ⟨h.below.trans (hb.mono (by omega)), (hb.block _ (by omega)).trans h.inbox, h.map.of_block (hb.block _ (by omega)), h.rowS.of_block (hb.block _ (by omega)), h.rowM.of_block (hb.block _ (by omega)), h.hit, h.supp, fun j hj => ?_, h.inj⟩
  obtain ⟨h1, h2⟩ := h.marks j hj
  exact ⟨h1, (hb.block _ (Array.getElem?_eq_some_iff.1 h2).1).trans h2⟩

open Classical in
theorem mark_step {W : World} (h : SInv w0 wr n sS sE k k d f mk) (hn : n ≤ 1024) (hk : k < n) (hss : ∀ j, (sS j).size ≤ maxLen) (hse : ∀ j, (Lit.int .u64 (sE j)).wf = true) (hb : Below wr.heap.size wr W) :
    Calls Yba.prog 9 #[.pointer (some ⟨w0.heap.size + 1, 0, none⟩), .agg #[.string (sS k), .int .u64 (sE k)]] W fun e w3 => ∃ q f' d' mk', e = .returned (.pointer (some ⟨q, 0, none⟩)) ∧
      SInv w0 w3 n sS sE (k + 1) k d' f' mk' ∧ mk' k = q ∧ (∀ j, j < k → (mk' j = q ↔ klit (sS j) (sE j) = klit (sS k) (sE k))) ∧
      d' = (if ∃ j, j < k ∧ klit (sS j) (sE j) = klit (sS k) (sE k) then d else d + 1) ∧ W.heap.size ≤ w3.heap.size ∧ ∀ b, wr.heap.size ≤ b → b < W.heap.size → w3.heap[b]? = W.heap[b]? := by
  have hW := h.of_below hb
  have hs := hW.size
  have hs0 := h.size
  by_cases hx : ∃ j, j < k ∧ klit (sS j) (sE j) = klit (sS k) (sE k)
  · obtain ⟨j0, hj0, he0⟩ := hx
    refine (markOf_old (w0.heap.size + 1) w0.heap.size k d f (sS k) (sE k) ⟨mk j0, 0, none⟩ W hW.inbox hW.map (hss k) (hse k) (by rw [← he0]; exact hW.hit j0 hj0)).mono fun e w3 ⟨he, hb3⟩ => ?_
    have h3 := hW.of_below hb3
    refine ⟨mk j0, f, d, fun j => if j = k then mk j0 else mk j, he, ?_, by simp, ?_, by rw [if_pos ⟨j0, hj0, he0⟩], hb3.size, fun b _ hb' => hb3.block b hb'⟩
    · refine ⟨h3.below, h3.inbox, h3.map.mono (by omega), h3.rowS, h3.rowM.congr ?_, ?_, ?_, ?_, ?_⟩
      · intro j hj
        have : j ≠ k := by omega
        simp [cellM, this]
      · intro j hj
        by_cases e : j = k
        · subst e
          simp only [if_true]
          rw [← he0]
          exact h3.hit j0 hj0
        · simp only [e, if_false]
          exact h3.hit j (by omega)
      · intro x hx
        obtain ⟨j, hj, ej⟩ := h3.supp x hx
        exact ⟨j, by omega, ej⟩
      · intro j hj
        by_cases e : j = k
        · subst e
          simp only [if_true]
          exact h3.marks j0 hj0
        · simp only [e, if_false]
          exact h3.marks j (by omega)
      · intro i hi j hj hij
        by_cases ei : i = k
        · by_cases ej : j = k
          · rw [ei, ej]
          · simp only [ei, ej, if_true, if_false] at hij
            rw [ei, ← he0]
            exact h3.inj j0 hj0 j (by omega) hij
        · by_cases ej : j = k
          · simp only [ei, ej, if_true, if_false] at hij
            rw [ej, ← he0]
            exact h3.inj i (by omega) j0 hj0 hij
          · simp only [ei, ej, if_false] at hij
            exact h3.inj i (by omega) j (by omega) hij
    · intro j hj
      have : j ≠ k := by omega
      simp only [this, if_false]
      constructor
      · intro hm
        rw [← he0]
        exact h3.inj j hj j0 hj0 hm
      · intro hm
        have e1 := h3.hit j hj
        have e2 := h3.hit j0 hj0
        rw [hm, ← he0, e2] at e1
        simp at e1
        exact e1.symm
  · have hnone : f (klit (sS k) (sE k)) = none := by
      cases hq : f (klit (sS k) (sE k)) with
      | none => rfl
      | some v =>
        obtain ⟨j, hj, ej⟩ := hW.supp _ (by rw [hq]; simp)
        exact absurd ⟨j, hj, ej.symm⟩ hx
    refine (markOf_new (w0.heap.size + 1) w0.heap.size k d f (sS k) (sE k) W hW.inbox hW.map (hss k) (hse k) (by unfold maxLen; omega) hnone).mono fun e w3 ⟨q, he, hq, hqb, hm3, hbm⟩ => ?_
    have hold : ∀ j, j < k → mk j < W.heap.size := fun j hj => (Array.getElem?_eq_some_iff.1 (hW.marks j hj).2).1
    refine ⟨q, fun x => if x = klit (sS k) (sE k) then some (.pointer (some ⟨q, 0, none⟩)) else f x, d + 1, fun j => if j = k then q else mk j, he, ?_, by simp, ?_, by rw [if_neg hx], hbm.size, fun b hb1 hb2 => hbm.block b hb2 (by omega)⟩
    · refine ⟨?_, (hbm.block _ (by omega) (by omega)).trans hW.inbox, hm3, hW.rowS.of_block (hbm.block _ (by omega) (by omega)), (hW.rowM.of_block (hbm.block _ (by omega) (by omega))).congr ?_, ?_, ?_, ?_, ?_⟩
      · exact ⟨hbm.os.trans hW.below.os, hbm.tape.trans hW.below.tape, hbm.output.trans hW.below.output, Nat.le_trans hW.below.size hbm.size, fun i hi => (hbm.block i (by omega) (by omega)).trans (hW.below.block i hi)⟩
      · intro j hj
        have : j ≠ k := by omega
        simp [cellM, this]
      · intro j hj
        by_cases e : j = k
        · subst e
          simp
        · have hne : klit (sS j) (sE j) ≠ klit (sS k) (sE k) := fun h' => hx ⟨j, by omega, h'⟩
          simp only [hne, e, if_false]
          exact hW.hit j (by omega)
      · intro x hx'
        by_cases e : x = klit (sS k) (sE k)
        · exact ⟨k, by omega, e⟩
        · simp only [e, if_false] at hx'
          obtain ⟨j, hj, ej⟩ := hW.supp x hx'
          exact ⟨j, by omega, ej⟩
      · intro j hj
        by_cases e : j = k
        · subst e
          simp only [if_true]
          exact ⟨by omega, hqb⟩
        · simp only [e, if_false]
          obtain ⟨m1, m2⟩ := hW.marks j (by omega)
          exact ⟨m1, (hbm.block _ (hold j (by omega)) (by omega)).trans m2⟩
      · intro i hi j hj hij
        by_cases ei : i = k
        · by_cases ej : j = k
          · rw [ei, ej]
          · simp only [ei, ej, if_true, if_false] at hij
            have := hold j (by omega)
            omega
        · by_cases ej : j = k
          · simp only [ei, ej, if_true, if_false] at hij
            have := hold i (by omega)
            omega
          · simp only [ei, ej, if_false] at hij
            exact hW.inj i (by omega) j (by omega) hij
    · intro j hj
      have : j ≠ k := by omega
      simp only [this, if_false]
      constructor
      · intro hm
        have := hold j hj
        omega
      · intro hm
        exact absurd ⟨j, hj, hm⟩ hx

/-- Behind the first append (senders): what the walk wants of the second. -/
theorem SInv.mid {wa wb : World} (h : SInv w0 wr n sS sE k kr d f mk) (h1 : Below wr.heap.size wr wa) (hg : wa.grownBy wb (some (w0.heap.size + 2))) : rowsAt wb (w0.heap.size + 3) 33 1 n kr (cellM mk) := by
  have hB := h.of_below h1
  have hs := hB.size
  exact hB.rowM.of_block (hg.block _ (by omega) (by simp))

/-- Behind the two appends. -/
theorem SInv.push {wa wb wc wd : World} (h : SInv w0 wr n sS sE k kr d f mk) (h1 : Below wr.heap.size wr wa) (hg : wa.grownBy wb (some (w0.heap.size + 2))) (hrb : rowsAt wb (w0.heap.size + 2) 29 2 n (kr + 1) (cellS sS sE))
    (h2 : Below wb.heap.size wb wc) (hg2 : wc.grownBy wd (some (w0.heap.size + 3))) (hrd : rowsAt wd (w0.heap.size + 3) 33 1 n (kr + 1) (cellM mk)) : SInv w0 wd n sS sE k (kr + 1) d f mk := by
  have hs := h.size
  have s1 := h1.size
  have s2 := hg.size
  have s3 := h2.size
  have s4 := hg2.size
  have hall : ∀ i, i < wr.heap.size → i ≠ w0.heap.size + 2 → i ≠ w0.heap.size + 3 → wd.heap[i]? = wr.heap[i]? := fun i hi n2 n3 =>
    (hg2.block i (by omega) (by simpa using n3)).trans ((h2.block i (by omega)).trans ((hg.block i (by omega) (by simpa using n2)).trans (h1.block i hi)))
  refine ⟨⟨?_, ?_, ?_, ?_, fun i hi => ?_⟩, (hall _ (by omega) (by omega) (by omega)).trans h.inbox, h.map.of_block (hall _ (by omega) (by omega) (by omega)), ?_, hrd, h.hit, h.supp, fun j hj => ?_, h.inj⟩
  · rw [hg2.os, h2.os, hg.os, h1.os, h.below.os]
  · rw [hg2.tape, h2.tape, hg.tape, h1.tape, h.below.tape]
  · rw [hg2.output, h2.output, hg.output, h1.output, h.below.output]
  · have := h.below.size
    omega
  · rw [hall i (by omega) (by omega) (by omega)]
    exact h.below.block i hi
  · exact hrb.of_block ((hg2.block _ (by omega) (by simp)).trans (h2.block _ (by omega)))
  · obtain ⟨m1, m2⟩ := h.marks j hj
    exact ⟨m1, (hall _ (Array.getElem?_eq_some_iff.1 m2).1 (by omega) (by omega)).trans m2⟩

/-- At the start. -/
theorem SInv_start (w : World) (n : Nat) (sS : Nat → ByteArray) (sE : Nat → Int) (mk : Nat → Nat) (z : Array Value) (z' : Array Value) :
    SInv w ((((w.alloc (.map #[] 0)).alloc (.cells #[.int .i32 0, .int .u32 0, .map (some w.heap.size)] 44)).alloc (.cells (madeCells z (n * 2)) 29)).alloc (.cells (madeCells z' n) 33)) n sS sE 0 0 0 (fun _ => none) mk := by
  have e1 : (w.alloc (.map #[] 0)).heap.size = w.heap.size + 1 := by simp
  have e2 : ((w.alloc (.map #[] 0)).alloc (.cells #[.int .i32 0, .int .u32 0, .map (some w.heap.size)] 44)).heap.size = w.heap.size + 2 := by simp
  have e3 : (((w.alloc (.map #[] 0)).alloc (.cells #[.int .i32 0, .int .u32 0, .map (some w.heap.size)] 44)).alloc (.cells (madeCells z (n * 2)) 29)).heap.size = w.heap.size + 3 := by simp
  have b1 : Below w.heap.size w (w.alloc (.map #[] 0)) := (Below.refl _ _).alloc (Nat.le_refl _) _
  refine ⟨((b1.alloc (by omega) _).alloc (by omega) _).alloc (by omega) _, ?_, ?_, ?_, ?_, fun j hj => by omega, fun x hx => absurd rfl hx, fun j hj => by omega, fun i hi => by omega⟩
  · show _ = _
    rw [Below.heap_alloc _ _ _ (by omega), Below.heap_alloc _ _ _ (by omega), ← e1]
    exact heap_alloc_new _ _
  · refine (mapIs_made w Yba.prog 29).of_block ?_
    rw [Below.heap_alloc _ _ _ (by omega), Below.heap_alloc _ _ _ (by omega), Below.heap_alloc _ _ _ (by omega)]
  · have := rowsAt_made ((w.alloc (.map #[] 0)).alloc (.cells #[.int .i32 0, .int .u32 0, .map (some w.heap.size)] 44)) z 29 2 n (cellS sS sE)
    rw [e2] at this
    exact this.of_block (Below.heap_alloc _ _ _ (by omega))
  · have := rowsAt_made (((w.alloc (.map #[] 0)).alloc (.cells #[.int .i32 0, .int .u32 0, .map (some w.heap.size)] 44)).alloc (.cells (madeCells z (n * 2)) 29)) z' 33 1 n (cellM mk)
    rw [e3, Nat.mul_one] at this
    exact this
end
end Go.Proofs.Ybulkfue
