/-
  LawS0341AFree: the first loop's state, and the second's at its start.
-/
import Derived.Test.YbulkgaqFin
namespace Go.Proofs.Ybulkgaq
open Go.RowKit
open Go.Maps (Keyed)

/-- The first loop. -/
structure Inv0 (B n nf : Nat) (w0 : World) (F : Nat → Bool) (k : Nat) (fr : Nat → Bool) (tk : Nat → Int) (wr : World) : Prop where
  ten : Ten nf F k fr tk
  bs : blockIs wr (B + 2) (bcells (B + 1) (.slice (some ⟨B + 3, 0, none⟩) n n)) 31
  mp : mapSt wr (B + 1) 0 (fun _ => false) (fun _ => false) (fun _ => 0)
  tn : rowsAt wr (B + 3) 34 1 (n * 7) (n * 7) (tcell fr tk)
  below : Below B w0 wr
  size : wr.heap.size = B + 4

section
variable {B n nf : Nat} {w0 wr : World} {F : Nat → Bool} {k : Nat} {fr : Nat → Bool} {tk : Nat → Int}
theorem Inv0.taker (h : Inv0 B n nf w0 F k fr tk wr) : blockIs (wr.setCell ⟨B + 3, k * 7 + 6, none⟩ (.int .i64 (-1))) (B + 2) (bcells (B + 1) (.slice (some ⟨B + 3, 0, none⟩) n n)) 31 ∧ mapSt (wr.setCell ⟨B + 3, k * 7 + 6, none⟩ (.int .i64 (-1))) (B + 1) 0 (fun _ => false) (fun _ => false) (fun _ => 0) ∧
    rowsAt (wr.setCell ⟨B + 3, k * 7 + 6, none⟩ (.int .i64 (-1))) (B + 3) 34 1 (n * 7) (n * 7) (tcell fr (upd tk k (-1))) ∧ Below B w0 (wr.setCell ⟨B + 3, k * 7 + 6, none⟩ (.int .i64 (-1))) ∧ (wr.setCell ⟨B + 3, k * 7 + 6, none⟩ (.int .i64 (-1))).heap.size = B + 4 :=
  ⟨h.bs.of_block (Below.heap_setCell _ _ _ _ (by show B + 2 ≠ B + 3; omega)), h.mp.of_block (Below.heap_setCell _ _ _ _ (by show B + 1 ≠ B + 3; omega)), (h.tn.store _ _).congr fun j _ => tcell_taker fr tk k (-1) j, h.below.setCell (by show B ≤ B + 3; omega) _, by simpa using h.size⟩
theorem Inv0.skip (h : Inv0 B n nf w0 F k fr tk wr) (hk : nf ≤ k) : Inv0 B n nf w0 F (k + 1) fr (upd tk k (-1)) (wr.setCell ⟨B + 3, k * 7 + 6, none⟩ (.int .i64 (-1))) := by
  obtain ⟨h1, h2, h3, h4, h5⟩ := h.taker
  refine ⟨⟨fun i hi => ?_, fun i hi => ?_, fun i hi => h.ten.z i (by omega)⟩, h1, h2, h3, h4, h5⟩
  · by_cases hik : i = k
    · subst hik
      rw [h.ten.z i (Nat.le_refl _)]
      have : ¬ i < nf := by omega
      simp [this]
    · exact h.ten.f i (by omega)
  · by_cases hik : i = k
    · simp [upd, hik]
    · simp only [upd, hik, if_false]
      exact h.ten.t i (by omega)
theorem Inv0.set (h : Inv0 B n nf w0 F k fr tk wr) (hk : k < nf) : Inv0 B n nf w0 F (k + 1) (upd fr k (F k)) (upd tk k (-1)) ((wr.setCell ⟨B + 3, k * 7 + 6, none⟩ (.int .i64 (-1))).setCell ⟨B + 3, k * 7 + 2, none⟩ (.bool (F k))).drew := by
  obtain ⟨h1, h2, h3, h4, h5⟩ := h.taker
  refine ⟨⟨fun i hi => ?_, fun i hi => ?_, fun i hi => ?_⟩, h1.of_block (Below.heap_setCell _ _ _ _ (by show B + 2 ≠ B + 3; omega)), h2.of_block (Below.heap_setCell _ _ _ _ (by show B + 1 ≠ B + 3; omega)), ?_, (h4.setCell (by show B ≤ B + 3; omega) _).drew, by simpa using h.size⟩
  · by_cases hik : i = k
    · subst hik
      simp [upd, hk]
    · simp only [upd, hik, if_false]
      exact h.ten.f i (by omega)
  · by_cases hik : i = k
    · simp [upd, hik]
    · simp only [upd, hik, if_false]
      exact h.ten.t i (by omega)
  · have hik : ¬ i = k := by omega
    simp only [upd, hik, if_false]
    exact h.ten.z i (by omega)
  · exact (h3.store (k * 7 + 2) (.bool (F k))).congr fun j _ => tcell_freed fr (upd tk k (-1)) k (F k) j
end

theorem inv_start {B n nf : Nat} {w0 wA : World} {F : Nat → Bool} {fr : Nat → Bool} {tk : Nat → Int} (h : Inv0 B n nf w0 F n fr tk wA) :
    Inv B 0 n w0 (fun _ => false) (fun _ => false) (fun _ => 0) fr tk ((wA.alloc (.cells #[.bool false, .bool false, .bool false, .bool false, .bool false, .bool false, .bool false, .bool false, .bool false, .bool false, .bool false, .bool false, .bool false, .bool false, .bool false, .bool false] 35)).alloc (.cells #[.bool false, .int .i64 0, .bool false, .int .i64 0, .bool false, .int .i64 0, .bool false, .int .i64 0, .bool false, .int .i64 0, .bool false, .int .i64 0, .bool false, .int .i64 0, .bool false, .int .i64 0, .bool false, .int .i64 0, .bool false, .int .i64 0, .bool false, .int .i64 0, .bool false, .int .i64 0, .bool false, .int .i64 0, .bool false, .int .i64 0, .bool false, .int .i64 0, .bool false, .int .i64 0] 38)) := by
  have hs := h.size
  refine ⟨(h.bs.alloc _).alloc _, h.mp.of_block ((heap_alloc_old _ _ (by simp; omega)).trans (heap_alloc_old _ _ (by omega))), h.tn.of_block ((heap_alloc_old _ _ (by simp; omega)).trans (heap_alloc_old _ _ (by omega))), ?_, ?_, (h.below.alloc (by omega) _).alloc (by simp; omega) _, by simp; omega, by simp⟩
  · refine ⟨#[.bool false, .bool false, .bool false, .bool false, .bool false, .bool false, .bool false, .bool false, .bool false, .bool false, .bool false, .bool false, .bool false, .bool false, .bool false, .bool false], ?_, rfl, Nat.le_refl _, fun j hj => ?_⟩
    · have := heap_alloc_new wA (.cells #[.bool false, .bool false, .bool false, .bool false, .bool false, .bool false, .bool false, .bool false, .bool false, .bool false, .bool false, .bool false, .bool false, .bool false, .bool false, .bool false] 35)
      rw [hs] at this
      exact (heap_alloc_old _ _ (by simp; omega)).trans this
    · have hj' : j < 16 := by omega
      have hd : j = 0 ∨ j = 1 ∨ j = 2 ∨ j = 3 ∨ j = 4 ∨ j = 5 ∨ j = 6 ∨ j = 7 ∨ j = 8 ∨ j = 9 ∨ j = 10 ∨ j = 11 ∨ j = 12 ∨ j = 13 ∨ j = 14 ∨ j = 15 := by omega
      rcases hd with rfl | rfl | rfl | rfl | rfl | rfl | rfl | rfl | rfl | rfl | rfl | rfl | rfl | rfl | rfl | rfl <;> rfl
  · refine ⟨#[.bool false, .int .i64 0, .bool false, .int .i64 0, .bool false, .int .i64 0, .bool false, .int .i64 0, .bool false, .int .i64 0, .bool false, .int .i64 0, .bool false, .int .i64 0, .bool false, .int .i64 0, .bool false, .int .i64 0, .bool false, .int .i64 0, .bool false, .int .i64 0, .bool false, .int .i64 0, .bool false, .int .i64 0, .bool false, .int .i64 0, .bool false, .int .i64 0, .bool false, .int .i64 0], ?_, rfl, Nat.le_refl _, fun j hj => ?_⟩
    · have := heap_alloc_new (wA.alloc (.cells #[.bool false, .bool false, .bool false, .bool false, .bool false, .bool false, .bool false, .bool false, .bool false, .bool false, .bool false, .bool false, .bool false, .bool false, .bool false, .bool false] 35)) (.cells #[.bool false, .int .i64 0, .bool false, .int .i64 0, .bool false, .int .i64 0, .bool false, .int .i64 0, .bool false, .int .i64 0, .bool false, .int .i64 0, .bool false, .int .i64 0, .bool false, .int .i64 0, .bool false, .int .i64 0, .bool false, .int .i64 0, .bool false, .int .i64 0, .bool false, .int .i64 0, .bool false, .int .i64 0, .bool false, .int .i64 0, .bool false, .int .i64 0, .bool false, .int .i64 0] 38)
      have e : (wA.alloc (.cells #[.bool false, .bool false, .bool false, .bool false, .bool false, .bool false, .bool false, .bool false, .bool false, .bool false, .bool false, .bool false, .bool false, .bool false, .bool false, .bool false] 35)).heap.size = B + 5 := by simp; omega
      rw [e] at this
      exact this
    · have hj' : j < 32 := by omega
      have hd : j = 0 ∨ j = 1 ∨ j = 2 ∨ j = 3 ∨ j = 4 ∨ j = 5 ∨ j = 6 ∨ j = 7 ∨ j = 8 ∨ j = 9 ∨ j = 10 ∨ j = 11 ∨ j = 12 ∨ j = 13 ∨ j = 14 ∨ j = 15 ∨ j = 16 ∨ j = 17 ∨ j = 18 ∨ j = 19 ∨ j = 20 ∨ j = 21 ∨ j = 22 ∨ j = 23 ∨ j = 24 ∨ j = 25 ∨ j = 26 ∨ j = 27 ∨ j = 28 ∨ j = 29 ∨ j = 30 ∨ j = 31 := by omega
      rcases hd with rfl | rfl | rfl | rfl | rfl | rfl | rfl | rfl | rfl | rfl | rfl | rfl | rfl | rfl | rfl | rfl | rfl | rfl | rfl | rfl | rfl | rfl | rfl | rfl | rfl | rfl | rfl | rfl | rfl | rfl | rfl | rfl <;> rfl

end Go.Proofs.Ybulkgaq
