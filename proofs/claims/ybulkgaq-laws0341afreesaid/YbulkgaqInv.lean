/-
  LawS0341AFree: what its loops keep.
-/
import Derived.Test.YbulkgaqBase
namespace Go.Proofs.Ybulkgaq
open Go.RowKit
open Go.Maps (Keyed)

/-- The cells of the tenancies: freed by fr, taker by tk, all else zero. -/
def tcell (fr : Nat → Bool) (tk : Nat → Int) (j : Nat) : Value :=
  if j % 7 = 0 then .int .u64 0 else if j % 7 = 1 then .bool false else if j % 7 = 2 then .bool (fr (j / 7)) else if j % 7 = 3 then .bool false else if j % 7 = 4 then .bool false else if j % 7 = 5 then .slice none 0 0 else .int .i64 (tk (j / 7))
theorem tcell_at (fr : Nat → Bool) (tk : Nat → Int) (q : Nat) : tcell fr tk (q * 7) = .int .u64 0 ∧ tcell fr tk (q * 7 + 1) = .bool false ∧ tcell fr tk (q * 7 + 2) = .bool (fr q) ∧ tcell fr tk (q * 7 + 3) = .bool false ∧ tcell fr tk (q * 7 + 4) = .bool false ∧ tcell fr tk (q * 7 + 5) = .slice none 0 0 ∧ tcell fr tk (q * 7 + 6) = .int .i64 (tk q) := by
  have e : ∀ r, r < 7 → (q * 7 + r) % 7 = r ∧ (q * 7 + r) / 7 = q := fun r hr => by omega
  have e0 := e 0 (by omega)
  have e1 := e 1 (by omega)
  have e2 := e 2 (by omega)
  have e3 := e 3 (by omega)
  have e4 := e 4 (by omega)
  have e5 := e 5 (by omega)
  have e6 := e 6 (by omega)
  rw [Nat.add_zero] at e0
  refine ⟨?_, ?_, ?_, ?_, ?_, ?_, ?_⟩
  · simp [tcell, e0.1]
  · simp [tcell, e1.1]
  · simp [tcell, e2.1, e2.2]
  · simp [tcell, e3.1]
  · simp [tcell, e4.1]
  · simp [tcell, e5.1]
  · simp [tcell, e6.1, e6.2]
theorem tcell_taker (fr : Nat → Bool) (tk : Nat → Int) (k : Nat) (v : Int) (j : Nat) : tcell fr (upd tk k v) j = if j = k * 7 + 6 then .int .i64 v else tcell fr tk j := by
  by_cases hj : j = k * 7 + 6
  · subst hj
    simp [(tcell_at fr (upd tk k v) k).2.2.2.2.2.2, upd]
  · rw [if_neg hj]
    by_cases h6 : j % 7 = 6
    · have hne : ¬ j / 7 = k := by omega
      simp [tcell, h6, upd, hne]
    · unfold tcell
      repeat' split
      all_goals first | rfl | omega
theorem tcell_freed (fr : Nat → Bool) (tk : Nat → Int) (k : Nat) (v : Bool) (j : Nat) : tcell (upd fr k v) tk j = if j = k * 7 + 2 then .bool v else tcell fr tk j := by
  by_cases hj : j = k * 7 + 2
  · subst hj
    simp [(tcell_at (upd fr k v) tk k).2.2.1, upd]
  · rw [if_neg hj]
    by_cases h6 : j % 7 = 2
    · have hne : ¬ j / 7 = k := by omega
      simp [tcell, h6, upd, hne]
    · unfold tcell
      repeat' split
      all_goals first | rfl | omega

theorem Yba.info34 : (Yba.prog.info? 34).map (fun i => (i.zero, i.size, i.bytes)) = some (some (.agg #[.int .u64 0, .bool false, .bool false, .bool false, .bool false, .slice none 0 0, .int .i64 0]), 7, 48) := by kernel_rfl
/-- 'make([]tenancy, n)': for every world. -/
theorem make26 (n : Nat) (hn : n ≤ 1024) (w : World) : (Instr.makeSlice 26 (.int .i64 n) (.int .i64 n)).run Yba.prog w = .ok (.slice (some ⟨w.heap.size, 0, none⟩) n n) (w.alloc (.cells (madeCells #[.int .u64 0, .bool false, .bool false, .bool false, .bool false, .slice none 0 0, .int .i64 0] (n * 7)) 34)) := by
  obtain ⟨i, hi, hz, hs, hb⟩ := info_parts Yba.info34
  have := run_make (P := Yba.prog) w 26 34 i _ Yba.underlying26 hi hz .i64 .i64 n n (by omega) (by omega) (by rw [hb]; omega) (by omega)
  rw [hs] at this
  simpa [Value.cells] using this
theorem made_row (w : World) (n : Nat) : rowsAt (w.alloc (.cells (madeCells #[.int .u64 0, .bool false, .bool false, .bool false, .bool false, .slice none 0 0, .int .i64 0] (n * 7)) 34)) w.heap.size 34 1 (n * 7) (n * 7) (tcell (fun _ => false) (fun _ => 0)) := by
  refine ⟨_, heap_alloc_new w _, by rw [size_madeCells, Nat.mul_one], Nat.le_refl _, fun j hj => ?_⟩
  rw [Nat.mul_one] at hj
  have : (madeCells #[.int .u64 0, .bool false, .bool false, .bool false, .bool false, .slice none 0 0, .int .i64 0] (n * 7))[j]? = some (#[Value.int .u64 0, .bool false, .bool false, .bool false, .bool false, .slice none 0 0, .int .i64 0][j % 7]!) := by
    simp [madeCells, hj]
  rw [this]
  have hm : j % 7 = 0 ∨ j % 7 = 1 ∨ j % 7 = 2 ∨ j % 7 = 3 ∨ j % 7 = 4 ∨ j % 7 = 5 ∨ j % 7 = 6 := by omega
  rcases hm with h | h | h | h | h | h | h <;> simp [tcell, h]

/-- The cells of 'was'. -/
def wcell (Sh : Nat → Bool) (S : Nat → Int) (j : Nat) : Value := if j % 2 = 0 then .bool (Sh (j / 2)) else .int .i64 (S (j / 2))
theorem wcell_at (Sh : Nat → Bool) (S : Nat → Int) (q : Nat) : wcell Sh S (q * 2) = .bool (Sh q) ∧ wcell Sh S (q * 2 + 1) = .int .i64 (S q) := by
  have e0 : (q * 2) % 2 = 0 ∧ (q * 2) / 2 = q := by omega
  have e1 : (q * 2 + 1) % 2 = 1 ∧ (q * 2 + 1) / 2 = q := by omega
  simp [wcell, e0.1, e0.2, e1.1, e1.2]
theorem wcell_upd (Sh : Nat → Bool) (S : Nat → Int) (q : Nat) (h : Bool) (t : Int) (j : Nat) : wcell (upd Sh q h) (upd S q t) j = if j = q * 2 + 1 then .int .i64 t else if j = q * 2 then .bool h else wcell Sh S j := by
  by_cases h1 : j = q * 2 + 1
  · subst h1
    simp [(wcell_at (upd Sh q h) (upd S q t) q).2, upd]
  · by_cases h2 : j = q * 2
    · subst h2
      simp [(wcell_at (upd Sh q h) (upd S q t) q).1, upd]
    · have : ¬ j / 2 = q := by omega
      simp [h1, h2, wcell, upd, this]

/-- The state: the 'blocks' at B + 2, its map at B + 1, its tenancies at B + 3, 'have' at B + 4, 'was' at B + 5. -/
structure Inv (B nb n : Nat) (w0 : World) (H Sh : Nat → Bool) (S : Nat → Int) (fr : Nat → Bool) (tk : Nat → Int) (wr : World) : Prop where
  bs : blockIs wr (B + 2) (bcells (B + 1) (.slice (some ⟨B + 3, 0, none⟩) n n)) 31
  mp : mapSt wr (B + 1) nb H Sh S
  tn : rowsAt wr (B + 3) 34 1 (n * 7) (n * 7) (tcell fr tk)
  hv : rowsAt wr (B + 4) 35 1 16 16 (fun j => .bool (H j))
  ws : rowsAt wr (B + 5) 38 1 32 32 (wcell Sh S)
  below : Below B w0 wr
  size : B + 6 ≤ wr.heap.size
  rng : ∀ j, H j = true → -1 ≤ S j ∧ S j < n

section
variable {B nb n : Nat} {w0 wr w' : World} {H Sh : Nat → Bool} {S : Nat → Int} {fr : Nat → Bool} {tk : Nat → Int}
theorem Inv.later (h : Inv B nb n w0 H Sh S fr tk wr) (hb : Below wr.heap.size wr w') : Inv B nb n w0 H Sh S fr tk w' := by
  have hs := h.size
  have hbs := hb.size
  exact ⟨h.bs.of_block (hb.block _ (by omega)), h.mp.of_block (hb.block _ (by omega)), h.tn.of_block (hb.block _ (by omega)), h.hv.of_block (hb.block _ (by omega)), h.ws.of_block (hb.block _ (by omega)), h.below.trans (hb.mono (by omega)), by omega, h.rng⟩

/-- The round of the second loop. -/
theorem Inv.step (hI : Inv B nb n w0 H Sh S fr tk wr) (hnb : nb ≤ 2000) {p a : Nat} (hp : p < 4) (ha : a < 4) (h : Bool) (t : Int) :
    ∃ w', (Instr.mapUpdate 25 (.map (some (B + 1))) (.agg #[.int .u64 p, .int .u64 a]) (.agg #[.bool h, .int .i64 t])).run Yba.prog
        ((((wr.setCell ⟨B + 4, p * 4 + a, none⟩ (.bool true)).setCell ⟨B + 5, (p * 4 + a) * 2, none⟩ (.bool h)).setCell ⟨B + 5, (p * 4 + a) * 2 + 1, none⟩ (.int .i64 t)).alloc (.cells #[.bool h, .int .i64 t] 37)).drew = .ok () w' ∧
      (-1 ≤ t ∧ t < n → Inv B (nb + 1) n w0 (upd H (p * 4 + a) true) (upd Sh (p * 4 + a) h) (upd S (p * 4 + a) t) fr tk w') := by
  obtain ⟨j, hj⟩ : ∃ j, j = p * 4 + a := ⟨_, rfl⟩
  rw [← hj]
  obtain ⟨W, hW⟩ : ∃ W : World, W = ((((wr.setCell ⟨B + 4, j, none⟩ (.bool true)).setCell ⟨B + 5, j * 2, none⟩ (.bool h)).setCell ⟨B + 5, j * 2 + 1, none⟩ (.int .i64 t)).alloc (.cells #[.bool h, .int .i64 t] 37)).drew := ⟨_, rfl⟩
  have hs := hI.size
  have hsW : W.heap.size = wr.heap.size + 1 := by rw [hW]; simp
  have hoth : ∀ k, k < wr.heap.size → k ≠ B + 4 → k ≠ B + 5 → W.heap[k]? = wr.heap[k]? := fun k hk h4 h5 => by
    rw [hW]
    exact (heap_alloc_old _ _ (by simpa using hk)).trans ((Below.heap_setCell _ _ _ _ h5).trans ((Below.heap_setCell _ _ _ _ h5).trans (Below.heap_setCell _ _ _ _ h4)))
  have hmW : mapSt W (B + 1) nb H Sh S := hI.mp.of_block (hoth _ (by omega) (by omega) (by omega))
  obtain ⟨w', e1, e2, e3, e4, e5, e6, e7⟩ := hmW.store hnb hp ha h t
  rw [← hj] at e2
  rw [← hW]
  refine ⟨w', e1, fun ht => ⟨?_, e2, ?_, ?_, ?_, ?_, by omega, ?_⟩⟩
  · exact hI.bs.of_block ((e7 _ (by omega)).trans (hoth _ (by omega) (by omega) (by omega)))
  · exact hI.tn.of_block ((e7 _ (by omega)).trans (hoth _ (by omega) (by omega) (by omega)))
  · have h4 : rowsAt W (B + 4) 35 1 16 16 (fun i => if i = j then .bool true else .bool (H i)) := by
      rw [hW]
      exact (hI.hv.store j (.bool true)).of_block ((heap_alloc_old _ _ (by simp; omega)).trans ((Below.heap_setCell _ _ _ _ (by show B + 4 ≠ B + 5; omega)).trans (Below.heap_setCell _ _ _ _ (by show B + 4 ≠ B + 5; omega))))
    exact (h4.of_block (e7 _ (by omega))).congr fun i _ => by simp only [upd]; split <;> rfl
  · have h5 : rowsAt W (B + 5) 38 1 32 32 (fun i => if i = j * 2 + 1 then .int .i64 t else if i = j * 2 then .bool h else wcell Sh S i) := by
      rw [hW]
      have h0 : rowsAt (wr.setCell ⟨B + 4, j, none⟩ (.bool true)) (B + 5) 38 1 32 32 (wcell Sh S) := hI.ws.of_block (Below.heap_setCell _ _ _ _ (by show B + 5 ≠ B + 4; omega))
      exact ((h0.store (j * 2) (.bool h)).store (j * 2 + 1) (.int .i64 t)).of_block (heap_alloc_old _ _ (by simp; omega))
    exact (h5.of_block (e7 _ (by omega))).congr fun i _ => wcell_upd Sh S j h t i
  · refine hI.below.trans ⟨by rw [e4, hW]; rfl, by rw [e5, hW]; rfl, by rw [e6, hW]; rfl, by omega, fun k hk => (e7 k (by omega)).trans (hoth k (by omega) (by omega) (by omega))⟩
  · intro i hi
    by_cases hij : i = j
    · subst hij
      simp only [upd, if_true]
      exact ht
    · simp only [upd, hij, if_false] at hi ⊢
      exact hI.rng i hi
end
end Go.Proofs.Ybulkgaq
