/-
  The key type (type 41: two uint64) of map[key]spot; the map as a table of sixteen places.
-/
import Derived.Test.YbulkgaqRows
import Derived.Test.YbulkgaqMap
import Derived.Test.YbulkgaqRow
import Derived.DeepKeys4
import Derived.KernelRfl
import Derived.WalkKit
namespace Go.Proofs.Ybulkgaq
open Go.RowKit
open Go.Maps (Keyed)

theorem Yba.laidOut : laidOutB Yba.prog = true := by kernel_rfl
theorem Yba.row41 : 41 < Yba.prog.types.size := of_decide_eq_true (by kernel_rfl)
theorem Yba.wide41 : (match Yba.prog.underlying 41 with | some (.array _ _) | some (.struct _) => true | _ => false) = true := by kernel_rfl
theorem Yba.law41 : Keyed Yba.prog 41 := Keyed.of_law (deep_law_laid Yba.laidOut (m := 2) (by omega) Yba.row41 (by kernel_rfl) Yba.wide41)
theorem Yba.cells41 : Yba.prog.cellsOf 41 = 2 := by kernel_rfl
theorem Yba.cells24 : Yba.prog.cellsOf 24 = 1 := by kernel_rfl
theorem Yba.keyType41 : Yba.prog.keyType 41 = true := by kernel_rfl

/-- What a key reads as. -/
def klit (p a : Int) : Lit := .string (keyBytes [.int .u64 p, .int .u64 a])

theorem keyOf_key (p a : Int) (hp : (Lit.int .u64 p).wf = true) (ha : (Lit.int .u64 a).wf = true) : keyOf Yba.prog 41 (.agg #[.int .u64 p, .int .u64 a]) = some (klit p a) := by
  have hfm : Value.formed Yba.prog 41 (.agg #[.int .u64 p, .int .u64 a]) = true := by simp [Value.formed, Yba.underlying41, Yba.cells41]
  simp only [keyOf, Yba.underlying41, Yba.keyType41, hfm, Bool.and_self, if_true]
  have h0 : ∀ m, Yba.prog.keyLits (m + 2) 41 [.int .u64 p, .int .u64 a] = some [.int .u64 p, .int .u64 a] := by
    intro m
    simp [Program.keyLits, Yba.underlying41, Yba.cells41, Yba.underlying24, Yba.cells24, hp, ha]
  obtain ⟨m, hm⟩ : ∃ m, Yba.prog.types.size = m + 1 := ⟨_, (Nat.sub_add_cancel (Nat.lt_of_le_of_lt (Nat.zero_le _) Yba.row41)).symm⟩
  rw [hm]
  simp [Value.cells, h0 m, klit]

theorem klit_inj {p a p' a' : Int} (hp : (Lit.int .u64 p).wf = true) (ha : (Lit.int .u64 a).wf = true) (hp' : (Lit.int .u64 p').wf = true) (ha' : (Lit.int .u64 a').wf = true) (h : klit p a = klit p' a') : p = p' ∧ a = a' := by
  have := Yba.law41.inj (keyOf_key p a hp ha) (by rw [h]; exact keyOf_key p' a' hp' ha')
  simpa using this

theorem wf4 {p : Nat} (h : p < 4) : (Lit.int .u64 (p : Int)).wf = true := WalkArith.wf_u64 (by omega)

def upd {α : Type} (f : Nat → α) (j : Nat) (v : α) : Nat → α := fun i => if i = j then v else f i
def cnt (H : Nat → Bool) (k : Nat) : Nat := (List.range k).countP H
theorem cnt_succ (H : Nat → Bool) (k : Nat) : cnt H (k + 1) = cnt H k + (if H k then 1 else 0) := by
  unfold cnt
  rw [List.range_succ, List.countP_append]
  simp [List.countP_cons]
theorem cnt_le (H : Nat → Bool) (k : Nat) : cnt H k ≤ k := by
  have := List.countP_le_length (p := H) (l := List.range k)
  simpa [cnt] using this
theorem cnt_upd (H : Nat → Bool) (j : Nat) : ∀ k, cnt (upd H j true) k = if j < k then (if H j then cnt H k else cnt H k + 1) else cnt H k
  | 0 => by simp [cnt]
  | k + 1 => by
    rw [cnt_succ, cnt_succ, cnt_upd H j k]
    by_cases hk : k = j
    · subst hk
      simp only [upd, if_true, Nat.lt_irrefl, if_false, Nat.lt_succ_self]
      cases H k <;> simp
    · have e : (j < k + 1) = (j < k) := by simp only [eq_iff_iff]; omega
      simp only [upd, hk, if_false, e]
      by_cases hj : j < k
      · simp only [hj, if_true]
        cases H j <;> cases H k <;> simp
      · simp [hj]

/-- A spot. -/
def spotV (h : Bool) (t : Int) : Value := .agg #[.bool h, .int .i64 t]

/-- The map mb holds at the place j (pid j / 4, address j % 4) the spot (Sh j, S j) where H j says so, and nothing else. -/
def mapSt (w : World) (mb nb : Nat) (H Sh : Nat → Bool) (S : Nat → Int) : Prop :=
  ∃ f n, n ≤ nb ∧ mapIs w Yba.prog 41 mb n f (cnt H 16) ∧ ∀ p a : Nat, p < 4 → a < 4 → f (klit p a) = if H (p * 4 + a) then some (spotV (Sh (p * 4 + a)) (S (p * 4 + a))) else none

section
variable {w w' : World} {mb nb : Nat} {H Sh : Nat → Bool} {S : Nat → Int}
theorem mapSt.of_block (h : mapSt w mb nb H Sh S) (e : w'.heap[mb]? = w.heap[mb]?) : mapSt w' mb nb H Sh S := by
  obtain ⟨f, n, h1, h2, h3⟩ := h
  exact ⟨f, n, h1, h2.of_block e, h3⟩
theorem mapSt.lt (h : mapSt w mb nb H Sh S) : mb < w.heap.size := by
  obtain ⟨f, n, h1, h2, h3⟩ := h
  exact h2.lt
theorem mapSt_made (w : World) (Sh : Nat → Bool) (S : Nat → Int) : mapSt (w.alloc (.map #[] 0)) w.heap.size 0 (fun _ => false) Sh S :=
  ⟨fun _ => none, 0, Nat.le_refl _, by have := mapIs_made w Yba.prog 41; simpa [cnt] using this, fun _ _ _ _ => rfl⟩
theorem mapSt.len (h : mapSt w mb nb H Sh S) (ty : TypeId) : (Builtin.len_ #[25] ty #[.map (some mb)]).run Yba.prog w = .ok (.int .i64 (cnt H 16)) w := by
  obtain ⟨f, n, h1, h2, h3⟩ := h
  exact h2.len Yba.underlying25 ty
theorem mapSt.look (h : mapSt w mb nb H Sh S) {p a : Nat} (hp : p < 4) (ha : a < 4) :
    (Instr.lookup 25 (.map (some mb)) (.agg #[.int .u64 p, .int .u64 a]) true).run Yba.prog w = .ok (.tuple #[if H (p * 4 + a) then spotV (Sh (p * 4 + a)) (S (p * 4 + a)) else spotV false 0, .bool (H (p * 4 + a))]) w := by
  obtain ⟨f, n, h1, h2, h3⟩ := h
  rw [h2.look_ok Yba.law41 Yba.underlying25 (z := spotV false 0) (by kernel_rfl) (keyOf_key p a (wf4 hp) (wf4 ha)), h3 p a hp ha]
  cases H (p * 4 + a) <;> rfl
theorem mapSt.store (h : mapSt w mb nb H Sh S) (hn : nb ≤ 2000) {p a : Nat} (hp : p < 4) (ha : a < 4) (v : Bool) (t : Int) :
    ∃ w', (Instr.mapUpdate 25 (.map (some mb)) (.agg #[.int .u64 p, .int .u64 a]) (.agg #[.bool v, .int .i64 t])).run Yba.prog w = .ok () w' ∧ mapSt w' mb (nb + 1) (upd H (p * 4 + a) true) (upd Sh (p * 4 + a) v) (upd S (p * 4 + a) t) ∧
      w'.heap.size = w.heap.size ∧ w'.os = w.os ∧ w'.tape = w.tape ∧ w'.output = w.output ∧ (∀ i, i ≠ mb → w'.heap[i]? = w.heap[i]?) := by
  obtain ⟨f, n, h1, h2, h3⟩ := h
  obtain ⟨w', e1, e2, e3⟩ := h2.store Yba.law41 Yba.underlying25 (by unfold maxLen; omega) (val := .agg #[.bool v, .int .i64 t]) (keyOf_key p a (wf4 hp) (wf4 ha))
  have hc : cnt (upd H (p * 4 + a) true) 16 = if (f (klit p a)).isSome then cnt H 16 else cnt H 16 + 1 := by
    rw [cnt_upd, if_pos (by omega), h3 p a hp ha]
    cases H (p * 4 + a) <;> rfl
  rw [← hc] at e2
  refine ⟨w', e1, ⟨_, n + 1, by omega, e2, fun p' a' hp' ha' => ?_⟩, e3⟩
  by_cases hx : p' = p ∧ a' = a
  · obtain ⟨rfl, rfl⟩ := hx
    simp [upd, spotV]
  · have hne : ¬ klit (p' : Int) (a' : Int) = klit (p : Int) (a : Int) := fun he => by
      have := klit_inj (wf4 hp') (wf4 ha') (wf4 hp) (wf4 ha) he
      omega
    have hj : ¬ p' * 4 + a' = p * 4 + a := by omega
    simp only [hne, if_false, upd, hj]
    exact h3 p' a' hp' ha'
end
end Go.Proofs.Ybulkgaq
