/-
  LawS0329BKeepsApplied: what holds at every round's head, and what markOf and Applied do to it.
-/
import Derived.Test.YbulkfueBKeepC
import Derived.Test.YbulkfueBInv
namespace Go.Proofs.Ybulkfue
open Go.RowKit

def cellV (vv : Nat → Int) (j : Nat) : Value := .int .u64 (vv j)
def upd {α : Type} (f : Nat → α) (m : Nat) (x : α) (j : Nat) : α := if j = m then x else f j
theorem upd_same {α : Type} (f : Nat → α) (m : Nat) (x : α) : upd f m x m = x := by simp [upd]
theorem upd_other {α : Type} (f : Nat → α) {m j : Nat} (x : α) (h : j ≠ m) : upd f m x j = f j := by simp [upd, h]

structure KInv (w0 wr : World) (n m mr cnt : Nat) (f : Lit → Option Value) (kS : Nat → ByteArray) (kE : Nat → Int) (vv vm : Nat → Int) (mk : Nat → Nat) : Prop where
  below : Below w0.heap.size w0 wr
  inbox : InboxAt wr (w0.heap.size + 1) w0.heap.size
  map : mapIs wr Yba.prog 29 w0.heap.size cnt f m
  rowK : rowsAt wr (w0.heap.size + 2) 29 2 n mr (cellS kS kE)
  rowV : rowsAt wr (w0.heap.size + 3) 27 1 n mr (cellV vv)
  hit : ∀ j, j < m → f (klit (kS j) (kE j)) = some (.pointer (some ⟨mk j, 0, none⟩))
  supp : ∀ x, f x ≠ none → ∃ j, j < m ∧ x = klit (kS j) (kE j)
  marks : ∀ j, j < m → w0.heap.size + 4 ≤ mk j ∧ wr.heap[mk j]? = some (markBlock (vm j))
  inj : ∀ i, i < mr → ∀ j, j < mr → klit (kS i) (kE i) = klit (kS j) (kE j) → i = j
  minj : ∀ i, i < m → ∀ j, j < m → mk i = mk j → i = j
  le : m ≤ mr
  ks : ∀ j, (kS j).size ≤ maxLen
  ke : ∀ j, (Lit.int .u64 (kE j)).wf = true

section
variable {w0 wr : World} {n m mr cnt : Nat} {f : Lit → Option Value} {kS : Nat → ByteArray} {kE : Nat → Int} {vv vm : Nat → Int} {mk : Nat → Nat}

theorem KInv.size (h : KInv w0 wr n m mr cnt f kS kE vv vm mk) : w0.heap.size + 3 < wr.heap.size := h.rowV.lt

theorem KInv.of_below {w' : World} (h : KInv w0 wr n m mr cnt f kS kE vv vm mk) (hb : Below wr.heap.size wr w') : KInv w0 w' n m mr cnt f kS kE vv vm mk := by
  have hs := h.size
  refine ⟨h.below.trans (hb.mono (by omega)), (hb.block _ (by omega)).trans h.inbox, h.map.of_block (hb.block _ (by omega)), h.rowK.of_block (hb.block _ (by omega)), h.rowV.of_block (hb.block _ (by omega)), h.hit, h.supp, fun j hj => ?_, h.inj, h.minj, h.le, h.ks, h.ke⟩
  obtain ⟨h1, h2⟩ := h.marks j hj
  exact ⟨h1, (hb.block _ (Array.getElem?_eq_some_iff.1 h2).1).trans h2⟩

open Classical in
theorem kmark_step {W : World} {k0 : Nat} (h : KInv w0 wr n m mr cnt f kS kE vv vm mk) (hk0 : k0 < mr) (hcase : mr = m ∨ (mr = m + 1 ∧ k0 = m ∧ vm m = 0)) (hcnt : cnt ≤ 1024) (hb : Below wr.heap.size wr W) :
    Calls Yba.prog 9 #[.pointer (some ⟨w0.heap.size + 1, 0, none⟩), .agg #[.string (kS k0), .int .u64 (kE k0)]] W fun e w3 => ∃ q f' mk', e = .returned (.pointer (some ⟨q, 0, none⟩)) ∧
      KInv w0 w3 n mr mr (cnt + 1) f' kS kE vv vm mk' ∧ mk' k0 = q ∧ W.heap.size ≤ w3.heap.size ∧ (∀ b, b < W.heap.size → b ≠ w0.heap.size → w3.heap[b]? = W.heap[b]?) ∧ ((∃ i, i < m ∧ q = mk i) ∨ W.heap.size ≤ q) := by
  have hW := h.of_below hb
  have hs := hW.size
  have hs0 := h.size
  rcases hcase with rfl | ⟨rfl, rfl, hv0⟩
  · refine (markOf_old (w0.heap.size + 1) w0.heap.size cnt mr f (kS k0) (kE k0) ⟨mk k0, 0, none⟩ W hW.inbox hW.map (h.ks k0) (h.ke k0) (hW.hit k0 hk0)).mono fun e w3 ⟨he, hb3⟩ => ?_
    have h3 := hW.of_below hb3
    exact ⟨mk k0, f, mk, he, ⟨h3.below, h3.inbox, h3.map.mono (by omega), h3.rowK, h3.rowV, h3.hit, h3.supp, h3.marks, h3.inj, h3.minj, h3.le, h3.ks, h3.ke⟩, rfl, hb3.size, fun b hb' _ => hb3.block b hb', .inl ⟨k0, hk0, rfl⟩⟩
  · have hnone : f (klit (kS k0) (kE k0)) = none := by
      cases hq : f (klit (kS k0) (kE k0)) with
      | none => rfl
      | some v =>
        obtain ⟨j, hj, ej⟩ := hW.supp _ (by rw [hq]; simp)
        have := h.inj k0 (by omega) j (by omega) ej
        omega
    refine (markOf_new (w0.heap.size + 1) w0.heap.size cnt k0 f (kS k0) (kE k0) W hW.inbox hW.map (h.ks k0) (h.ke k0) (by unfold maxLen; omega) hnone).mono fun e w3 ⟨q, he, hq, hqb, hm3, hbm⟩ => ?_
    have hold : ∀ j, j < k0 → mk j < W.heap.size := fun j hj => (Array.getElem?_eq_some_iff.1 (hW.marks j hj).2).1
    refine ⟨q, fun x => if x = klit (kS k0) (kE k0) then some (.pointer (some ⟨q, 0, none⟩)) else f x, upd mk k0 q, he, ?_, upd_same _ _ _, hbm.size, fun b hb1 hb2 => hbm.block b hb1 hb2, .inr hq⟩
    refine ⟨?_, (hbm.block _ (by omega) (by omega)).trans hW.inbox, hm3, hW.rowK.of_block (hbm.block _ (by omega) (by omega)), hW.rowV.of_block (hbm.block _ (by omega) (by omega)), ?_, ?_, ?_, h.inj, ?_, Nat.le_refl _, h.ks, h.ke⟩
    · exact ⟨hbm.os.trans hW.below.os, hbm.tape.trans hW.below.tape, hbm.output.trans hW.below.output, Nat.le_trans hW.below.size hbm.size, fun i hi => (hbm.block i (by omega) (by omega)).trans (hW.below.block i hi)⟩
    · intro j hj
      by_cases e : j = k0
      · subst e
        simp [upd_same]
      · have hne : klit (kS j) (kE j) ≠ klit (kS k0) (kE k0) := fun h' => e (h.inj j (by omega) k0 (by omega) h')
        simp only [hne, if_false]
        rw [upd_other _ _ e]
        exact hW.hit j (by omega)
    · intro x hx'
      by_cases e : x = klit (kS k0) (kE k0)
      · exact ⟨k0, by omega, e⟩
      · simp only [e, if_false] at hx'
        obtain ⟨j, hj, ej⟩ := hW.supp x hx'
        exact ⟨j, by omega, ej⟩
    · intro j hj
      by_cases e : j = k0
      · subst e
        rw [upd_same, hv0]
        exact ⟨by omega, hqb⟩
      · rw [upd_other _ _ e]
        obtain ⟨m1, m2⟩ := hW.marks j (by omega)
        exact ⟨m1, (hbm.block _ (hold j (by omega)) (by omega)).trans m2⟩
    · intro i hi j hj hij
      by_cases ei : i = k0
      · by_cases ej : j = k0
        · rw [ei, ej]
        · rw [ei, upd_same, upd_other _ _ ej] at hij
          have := hold j (by omega)
          omega
      · by_cases ej : j = k0
        · rw [ej, upd_same, upd_other _ _ ei] at hij
          have := hold i (by omega)
          omega
        · rw [upd_other _ _ ei, upd_other _ _ ej] at hij
          exact hW.minj i (by omega) j (by omega) hij

theorem kapplied_step {W : World} {k0 : Nat} (seq : Int) (h : KInv w0 wr n m mr cnt f kS kE vv vm mk) (hk0 : k0 < mr) (hcase : mr = m ∨ (mr = m + 1 ∧ k0 = m ∧ vm m = 0)) (hcnt : cnt ≤ 1024) (hb : Below wr.heap.size wr W) :
    Calls Yba.prog 10 #[.pointer (some ⟨w0.heap.size + 1, 0, none⟩), .agg #[.string (kS k0), .int .u64 (kE k0)], .int .u64 seq] W fun e w4 => e = .returned (.tuple #[]) ∧ ∃ f' mk',
      KInv w0 w4 n mr mr (cnt + 1) f' kS kE vv (upd vm k0 (if vm k0 < seq then seq else vm k0)) mk' ∧ W.heap.size ≤ w4.heap.size ∧ (∀ b, b < W.heap.size → b ≠ w0.heap.size → (∀ i, i < m → b ≠ mk i) → w4.heap[b]? = W.heap[b]?) := by
  have hb1 : Below wr.heap.size wr (W.alloc (.cells #[.string (kS k0), .int .u64 (kE k0)] 29)) := hb.alloc hb.size _
  have hC := kmark_step h hk0 hcase hcnt hb1
  refine (applied_any (w0.heap.size + 1) w0.heap.size (kS k0) (kE k0) seq W
    (fun q v w3 => v = vm k0 ∧ ∃ f' mk', KInv w0 w3 n mr mr (cnt + 1) f' kS kE vv vm mk' ∧ mk' k0 = q ∧ (W.alloc (.cells #[.string (kS k0), .int .u64 (kE k0)] 29)).heap.size ≤ w3.heap.size ∧ (∀ b, b < (W.alloc (.cells #[.string (kS k0), .int .u64 (kE k0)] 29)).heap.size → b ≠ w0.heap.size → w3.heap[b]? = (W.alloc (.cells #[.string (kS k0), .int .u64 (kE k0)] 29)).heap[b]?) ∧ ((∃ i, i < m ∧ q = mk i) ∨ (W.alloc (.cells #[.string (kS k0), .int .u64 (kE k0)] 29)).heap.size ≤ q))
    (hC.mono ?_)).mono ?_
  · rintro e w3 ⟨q, f', mk', he, hI3, hq, hz, hold, hqq⟩
    have hm3 := hI3.marks k0 hk0
    rw [hq] at hm3
    exact ⟨q, vm k0, he, ⟨rfl, f', mk', hI3, hq, hz, hold, hqq⟩, hI3.inbox, hm3.2, by omega⟩
  · rintro e w4 ⟨he, q, v, w3, ⟨rfl, f', mk', hI3, hq, hz, hold, hqq⟩, hm4, hbut⟩
    have hs3 := hI3.size
    have hq4 : w0.heap.size + 4 ≤ q := by have := (hI3.marks k0 hk0).1; omega
    refine ⟨he, f', mk', ⟨?_, (hbut.block _ (by omega)).trans hI3.inbox, hI3.map.of_block (hbut.block _ (by omega)), hI3.rowK.of_block (hbut.block _ (by omega)), hI3.rowV.of_block (hbut.block _ (by omega)), hI3.hit, hI3.supp, ?_, hI3.inj, hI3.minj, hI3.le, hI3.ks, hI3.ke⟩, ?_, ?_⟩
    · exact ⟨hbut.os.trans hI3.below.os, hbut.tape.trans hI3.below.tape, hbut.output.trans hI3.below.output, by rw [hbut.size]; exact hI3.below.size, fun i hi => (hbut.block i (by omega)).trans (hI3.below.block i hi)⟩
    · intro j hj
      by_cases e : j = k0
      · subst e
        rw [upd_same, hq]
        exact ⟨hq4, hm4⟩
      · rw [upd_other _ _ e]
        obtain ⟨m1, m2⟩ := hI3.marks j hj
        have hne : mk' j ≠ q := fun h' => e (hI3.minj j hj k0 hk0 (h'.trans hq.symm))
        exact ⟨m1, (hbut.block _ hne).trans m2⟩
    · rw [hbut.size]
      simp at hz
      omega
    · intro b hb1' hb2' hb3'
      have hz' : (W.alloc (.cells #[.string (kS k0), .int .u64 (kE k0)] 29)).heap.size = W.heap.size + 1 := by simp
      have hbq : b ≠ q := by
        rcases hqq with ⟨i, hi, e⟩ | hle
        · exact fun e' => hb3' i hi (e'.trans e)
        · omega
      rw [hbut.block b hbq, hold b (by omega) hb2']
      exact Below.heap_alloc _ _ _ hb1'

/-- The rows' functions may be said otherwise where they agree. -/
theorem KInv.congr {kS' : Nat → ByteArray} {kE' : Nat → Int} {vv' vm' : Nat → Int} (h : KInv w0 wr n m m cnt f kS kE vv vm mk) (e1 : ∀ j, j < m → kS' j = kS j) (e2 : ∀ j, j < m → kE' j = kE j) (e3 : ∀ j, j < m → vv' j = vv j) (e4 : ∀ j, j < m → vm' j = vm j)
    (hks : ∀ j, (kS' j).size ≤ maxLen) (hke : ∀ j, (Lit.int .u64 (kE' j)).wf = true) : KInv w0 wr n m m cnt f kS' kE' vv' vm' mk := by
  refine ⟨h.below, h.inbox, h.map, h.rowK.congr ?_, h.rowV.congr ?_, ?_, ?_, ?_, ?_, h.minj, h.le, hks, hke⟩
  · intro j hj
    simp only [cellS]
    rw [e1 (j / 2) (by omega), e2 (j / 2) (by omega)]
  · intro j hj
    simp only [cellV]
    rw [e3 j (by omega)]
  · intro j hj
    rw [e1 j hj, e2 j hj]
    exact h.hit j hj
  · intro x hx
    obtain ⟨j, hj, ej⟩ := h.supp x hx
    exact ⟨j, hj, by rw [e1 j hj, e2 j hj]; exact ej⟩
  · intro j hj
    rw [e4 j hj]
    exact h.marks j hj
  · intro i hi j hj hij
    rw [e1 i hi, e2 i hi, e1 j hj, e2 j hj] at hij
    exact h.inj i hi j hj hij

/-- Behind the first append (keys). -/
theorem KInv.mid {wa wb : World} (h : KInv w0 wr n m mr cnt f kS kE vv vm mk) (h1 : Below wr.heap.size wr wa) (hg : wa.grownBy wb (some (w0.heap.size + 2))) : rowsAt wb (w0.heap.size + 3) 27 1 n mr (cellV vv) := by
  have hB := h.of_below h1
  have hs := hB.size
  exact hB.rowV.of_block (hg.block _ (by omega) (by simp))

/-- Behind the two appends; the blocks made since the round's head are as they were. -/
theorem KInv.push {wa wb wc wd : World} (h : KInv w0 wr n m m cnt f kS kE vv vm mk) (hnew : ∀ j, j < m → klit (kS j) (kE j) ≠ klit (kS m) (kE m)) (h1 : Below wr.heap.size wr wa) (hg : wa.grownBy wb (some (w0.heap.size + 2))) (hrb : rowsAt wb (w0.heap.size + 2) 29 2 n (m + 1) (cellS kS kE))
    (h2 : Below wb.heap.size wb wc) (hg2 : wc.grownBy wd (some (w0.heap.size + 3))) (hrd : rowsAt wd (w0.heap.size + 3) 27 1 n (m + 1) (cellV vv)) :
    KInv w0 wd n m (m + 1) cnt f kS kE vv vm mk ∧ ∀ i, w0.heap.size + 4 ≤ i → i < wa.heap.size → wd.heap[i]? = wa.heap[i]? := by
  have hs := h.size
  have s1 := h1.size
  have s2 := hg.size
  have s3 := h2.size
  have s4 := hg2.size
  have hall : ∀ i, i < wa.heap.size → i ≠ w0.heap.size + 2 → i ≠ w0.heap.size + 3 → wd.heap[i]? = wa.heap[i]? := fun i hi n2 n3 =>
    (hg2.block i (by omega) (by simpa using n3)).trans ((h2.block i (by omega)).trans (hg.block i (by omega) (by simpa using n2)))
  have hallr : ∀ i, i < wr.heap.size → i ≠ w0.heap.size + 2 → i ≠ w0.heap.size + 3 → wd.heap[i]? = wr.heap[i]? := fun i hi n2 n3 => (hall i (by omega) n2 n3).trans (h1.block i hi)
  refine ⟨⟨⟨?_, ?_, ?_, ?_, fun i hi => ?_⟩, (hallr _ (by omega) (by omega) (by omega)).trans h.inbox, h.map.of_block (hallr _ (by omega) (by omega) (by omega)), ?_, hrd, h.hit, h.supp, fun j hj => ?_, ?_, h.minj, by omega, h.ks, h.ke⟩, fun i hi hi2 => hall i hi2 (by omega) (by omega)⟩
  · rw [hg2.os, h2.os, hg.os, h1.os, h.below.os]
  · rw [hg2.tape, h2.tape, hg.tape, h1.tape, h.below.tape]
  · rw [hg2.output, h2.output, hg.output, h1.output, h.below.output]
  · have := h.below.size
    omega
  · rw [hallr i (by omega) (by omega) (by omega)]
    exact h.below.block i hi
  · exact hrb.of_block ((hg2.block _ (by omega) (by simp)).trans (h2.block _ (by omega)))
  · obtain ⟨m1, m2⟩ := h.marks j hj
    exact ⟨m1, (hallr _ (Array.getElem?_eq_some_iff.1 m2).1 (by omega) (by omega)).trans m2⟩
  · intro i hi j hj hij
    by_cases ei : i = m
    · by_cases ej : j = m
      · omega
      · rw [ei] at hij
        exact absurd hij.symm (hnew j (by omega))
    · by_cases ej : j = m
      · rw [ej] at hij
        exact absurd hij (hnew i (by omega))
      · exact h.inj i (by omega) j (by omega) hij

/-- vals[k] = x. -/
theorem KInv.store (h : KInv w0 wr n m mr cnt f kS kE vv vm mk) (k0 : Nat) (x : Int) : KInv w0 (wr.setCell ⟨w0.heap.size + 3, k0, none⟩ (.int .u64 x)) n m mr cnt f kS kE (upd vv k0 x) vm mk := by
  have hs := h.size
  have hall : ∀ i, i ≠ w0.heap.size + 3 → (wr.setCell ⟨w0.heap.size + 3, k0, none⟩ (.int .u64 x)).heap[i]? = wr.heap[i]? := fun i hi => Below.heap_setCell _ _ _ _ (fun h => hi h)
  refine ⟨h.below.setCell (by simp) _, (hall _ (by omega)).trans h.inbox, h.map.of_block (hall _ (by omega)), h.rowK.of_block (hall _ (by omega)), (h.rowV.store k0 (.int .u64 x)).congr ?_, h.hit, h.supp, ?_, h.inj, h.minj, h.le, h.ks, h.ke⟩
  · intro j _
    simp only [cellV, upd]
    split <;> rfl
  · intro j hj
    obtain ⟨m1, m2⟩ := h.marks j hj
    exact ⟨m1, (hall _ (by omega)).trans m2⟩

/-- The mark numbers may be said otherwise where they agree. -/
theorem KInv.marks_congr {vm' : Nat → Int} (h : KInv w0 wr n m mr cnt f kS kE vv vm mk) (e : ∀ j, j < m → vm' j = vm j) : KInv w0 wr n m mr cnt f kS kE vv vm' mk :=
  ⟨h.below, h.inbox, h.map, h.rowK, h.rowV, h.hit, h.supp, fun j hj => by rw [e j hj]; exact h.marks j hj, h.inj, h.minj, h.le, h.ks, h.ke⟩

theorem KInv_start (w : World) (n : Nat) (kS : Nat → ByteArray) (kE : Nat → Int) (vv : Nat → Int) (mk : Nat → Nat) (z : Array Value) (z' : Array Value) (hks : ∀ j, (kS j).size ≤ maxLen) (hke : ∀ j, (Lit.int .u64 (kE j)).wf = true) :
    KInv w ((((w.alloc (.map #[] 0)).alloc (.cells #[.int .i32 0, .int .u32 0, .map (some w.heap.size)] 44)).alloc (.cells (madeCells z (n * 2)) 29)).alloc (.cells (madeCells z' n) 27)) n 0 0 0 (fun _ => none) kS kE vv vv mk := by
  have e1 : (w.alloc (.map #[] 0)).heap.size = w.heap.size + 1 := by simp
  have e2 : ((w.alloc (.map #[] 0)).alloc (.cells #[.int .i32 0, .int .u32 0, .map (some w.heap.size)] 44)).heap.size = w.heap.size + 2 := by simp
  have e3 : (((w.alloc (.map #[] 0)).alloc (.cells #[.int .i32 0, .int .u32 0, .map (some w.heap.size)] 44)).alloc (.cells (madeCells z (n * 2)) 29)).heap.size = w.heap.size + 3 := by simp
  have b1 : Below w.heap.size w (w.alloc (.map #[] 0)) := (Below.refl _ _).alloc (Nat.le_refl _) _
  refine ⟨((b1.alloc (by omega) _).alloc (by omega) _).alloc (by omega) _, ?_, ?_, ?_, ?_, fun j hj => by omega, fun x hx => absurd rfl hx, fun j hj => by omega, fun i hi => by omega, fun i hi => by omega, Nat.le_refl _, hks, hke⟩
  · show _ = _
    rw [Below.heap_alloc _ _ _ (by omega), Below.heap_alloc _ _ _ (by omega), ← e1]
    exact heap_alloc_new _ _
  · refine (mapIs_made w Yba.prog 29).of_block ?_
    rw [Below.heap_alloc _ _ _ (by omega), Below.heap_alloc _ _ _ (by omega), Below.heap_alloc _ _ _ (by omega)]
  · have := rowsAt_made ((w.alloc (.map #[] 0)).alloc (.cells #[.int .i32 0, .int .u32 0, .map (some w.heap.size)] 44)) z 29 2 n (cellS kS kE)
    rw [e2] at this
    exact this.of_block (Below.heap_alloc _ _ _ (by omega))
  · have := rowsAt_made (((w.alloc (.map #[] 0)).alloc (.cells #[.int .i32 0, .int .u32 0, .map (some w.heap.size)] 44)).alloc (.cells (madeCells z (n * 2)) 29)) z' 27 1 n (cellV vv)
    rw [e3, Nat.mul_one] at this
    exact this
end
end Go.Proofs.Ybulkfue
