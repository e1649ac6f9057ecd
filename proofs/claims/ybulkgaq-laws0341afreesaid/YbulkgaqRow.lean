/-
  A row in memory that is appended to within its capacity: 'rowsAt'.
-/
import Derived.OwnWalk
import Derived.Below
import Derived.WalkSmall
namespace Go.Proofs.Ybulkgaq
open Go.RowKit

/-- BLOCK g IS A ROW OF cap ELEMENTS OF TYPE e, size CELLS EACH, OF WHICH THE FIRST k ARE FILLED: cell j holds 'cell j'. -/
def rowsAt (w : World) (g : Nat) (e : TypeId) (size cap k : Nat) (cell : Nat → Value) : Prop :=
  ∃ cur : Array Value, w.heap[g]? = some (.cells cur e (0, 0)) ∧ cur.size = cap * size ∧ k ≤ cap ∧ ∀ j, j < k * size → cur[j]? = some (cell j)

section
variable {w : World} {g : Nat} {e : TypeId} {size cap k : Nat} {cell : Nat → Value}

theorem rowsAt.of_block {w' : World} (h : rowsAt w g e size cap k cell) (hb : w'.heap[g]? = w.heap[g]?) : rowsAt w' g e size cap k cell := by
  obtain ⟨cur, h1, h2⟩ := h
  exact ⟨cur, hb.trans h1, h2⟩

theorem rowsAt.lt (h : rowsAt w g e size cap k cell) : g < w.heap.size := by
  obtain ⟨cur, h1, _⟩ := h
  exact (Array.getElem?_eq_some_iff.1 h1).1

theorem rowsAt.cellAt (h : rowsAt w g e size cap k cell) {j : Nat} (hj : j < k * size) : w.cell? ⟨g, j, none⟩ = some (cell j) := by
  obtain ⟨cur, h1, _, _, h3⟩ := h
  rw [cell_of_row _ _ _ _ _ _ h1, h3 j hj]

theorem rowsAt.free (h : rowsAt w g e size cap k cell) (j : Nat) : w.frozen? ⟨g, j, none⟩ = false := by
  obtain ⟨cur, h1, _⟩ := h
  exact frozen_of_row _ _ _ _ _ h1

theorem rowsAt.congr (h : rowsAt w g e size cap k cell) {cell' : Nat → Value} (hc : ∀ j, j < k * size → cell' j = cell j) : rowsAt w g e size cap k cell' := by
  obtain ⟨cur, h1, h2, h3, h4⟩ := h
  exact ⟨cur, h1, h2, h3, fun j hj => by rw [h4 j hj, hc j hj]⟩

theorem rowsAt_made (w : World) (z : Array Value) (e : TypeId) (size cap : Nat) (cell : Nat → Value) : rowsAt (w.alloc (.cells (madeCells z (cap * size)) e)) w.heap.size e size cap 0 cell :=
  ⟨_, heap_alloc_new w _, size_madeCells _ _, Nat.zero_le _, fun j hj => by simp at hj⟩

theorem rowsAt.store (h : rowsAt w g e size cap k cell) (i : Nat) (v : Value) : rowsAt (w.setCell ⟨g, i, none⟩ v) g e size cap k (fun j => if j = i then v else cell j) := by
  obtain ⟨cur, h1, h2, h3, h4⟩ := h
  refine ⟨cur.setIfInBounds i v, heap_setCell_same w g i cur e v h1, by simpa using h2, h3, fun j hj => ?_⟩
  rw [Array.getElem?_setIfInBounds]
  by_cases he : i = j
  · subst he
    have hlt : i < cur.size := (Array.getElem?_eq_some_iff.1 (h4 i hj)).1
    simp [hlt]
  · have he' : ¬ j = i := fun h => he h.symm
    simp only [he, he', if_false]
    exact h4 j hj

/-- 'append(out, x)', x of 'size' cells, with room. -/
theorem rowsAt.append {P : Program} {t ty : TypeId} {i : TypeInfo} (h : rowsAt w g e size cap k cell) (ht : P.underlying t = some (.slice e)) (hi : P.info? e = some i) (hsize : i.size = size) (hroom : k < cap)
    (a : Addr) (c : Nat) (ha : ∀ j, j < size → w.cell? (a.add j) = some (cell (k * size + j))) (h1 : ∀ j, j < size → (cell (k * size + j)).oneCell' = true) :
    ∃ w', (Builtin.append_ #[t, t] ty #[.slice (some ⟨g, 0, none⟩) k cap, .slice (some a) 1 c]).run P w = .ok (.slice (some ⟨g, 0, none⟩) (k + 1) cap) w' ∧ rowsAt w' g e size cap (k + 1) cell ∧ w.grownBy w' (some g) ∧ w'.heap.size = w.heap.size := by
  obtain ⟨cur, hg, hcs, hkc, hcell⟩ := h
  obtain ⟨news, hnews⟩ : ∃ news : List Value, news = (List.range size).map fun j => cell (k * size + j) := ⟨_, rfl⟩
  have hnl : news.length = size := by simp [hnews]
  have hng : ∀ j, j < size → news[j]? = some (cell (k * size + j)) := fun j hj => by rw [hnews]; simp [hj]
  have hfit : k * i.size + news.length ≤ cur.size := by
    rw [hsize, hnl, hcs, ← Nat.succ_mul]
    exact Nat.mul_le_mul_right _ hroom
  have hr := run_append_room (P := P) w t ty e i ht hi g k cap cur hg a 1 c news (by rw [hnl, hsize, Nat.one_mul]) (fun j u hu => by
      have hj : j < size := by have := (List.getElem?_eq_some_iff.1 hu).1; omega
      rw [hng j hj] at hu
      cases hu
      exact ha j hj) (fun u hu => by
      obtain ⟨j, hj⟩ := List.getElem?_of_mem hu
      have hj' : j < size := by have := (List.getElem?_eq_some_iff.1 hj).1; omega
      rw [hng j hj'] at hj
      cases hj
      exact h1 j hj') (by omega) hfit
  refine ⟨_, hr, ⟨_, setRow_heap w g cur _ e _ hg, ?_, hroom, fun j hj => ?_⟩, ⟨rfl, rfl, rfl, by simp, fun q _ hq => setRow_other w g q _ (fun e => hq (by simp [e]))⟩, by simp⟩
  · rw [hsize, hnl] at hfit
    simp only [List.size_toArray, List.length_append, List.length_take, List.length_drop, Array.length_toList, hsize, hnl]
    omega
  · rw [hsize, hnl] at hfit
    rw [Nat.succ_mul] at hj
    simp only [List.getElem?_toArray, hsize]
    by_cases hlt : j < k * size
    · rw [List.append_assoc, List.getElem?_append_left (by simp; omega), List.getElem?_take_of_lt hlt, Array.getElem?_toList]
      exact hcell j hlt
    · have e1 : j = k * size + (j - k * size) := by omega
      rw [List.append_assoc, List.getElem?_append_right (by simp; omega), List.getElem?_append_left (by simp [hnl]; omega)]
      simp only [List.length_take, Array.length_toList, Nat.min_eq_left (by omega : k * size ≤ cur.size)]
      rw [hng _ (by omega), ← e1]

end

/-- .. at the operation, for the walk. -/
theorem wpList_append_rows {P : Program} (w : World) {ops : Array Oper} {rest : List Oper} {o : Oper} {a : Act} {Q : Exit → Act → World → Prop}
    (hg : o.guard = none) (s x : Operand) (t : TypeId) (hop : o.op = Op.call { callee := Callee.builtin Builtin.append, args := #[s, x], argTypes := #[t, t] })
    (g : Nat) (e : TypeId) (size cap k : Nat) (cell : Nat → Value) (i : TypeInfo) (hrow : rowsAt w g e size cap k cell) (ht : P.underlying t = some (.slice e)) (hi : P.info? e = some i) (hsize : i.size = size) (hroom : k < cap)
    (ad : Addr) (c : Nat) (hs : a.eval s = .slice (some ⟨g, 0, none⟩) k cap) (hx : a.eval x = .slice (some ad) 1 c) (ha : ∀ j, j < size → w.cell? (ad.add j) = some (cell (k * size + j))) (h1 : ∀ j, j < size → (cell (k * size + j)).oneCell' = true)
    (hK : ∀ w', rowsAt w' g e size cap (k + 1) cell → w.grownBy w' (some g) → w'.heap.size = w.heap.size → wpList P ops Q rest (a.put o.dst (.slice (some ⟨g, 0, none⟩) (k + 1) cap)) w') :
    wpList P ops Q (o :: rest) a w := by
  refine wpList_plain hg fun K hK' => ?_
  obtain ⟨w', hrun, r1, r2, r3⟩ := hrow.append (ty := o.type) ht hi hsize hroom ad c ha h1
  unfold Oper.wp
  simp [execOp, hop, resolve, invoke, builtin, hs, hx, hrun, Result.andThen]
  exact hK' _ _ (hK w' r1 r2 r3)
end Go.Proofs.Ybulkgaq
