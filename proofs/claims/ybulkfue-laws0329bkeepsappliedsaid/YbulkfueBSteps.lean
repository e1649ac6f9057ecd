/-
  A slice of steps (type 22, elements of type 32: uint8, uint8, uint8, uint64) that came in, as the walks want it.
-/
import Derived.Test.YbulkfueBSameW
import Derived.Deep.Slices
import Derived.ProofKit
import Derived.OpenShut
namespace Go.Proofs.Ybulkfue
open Go.RowKit Go.Deep Go.ChangeShapes Go.WideShapes

theorem Yba.cells32 : Yba.prog.cellsOf 32 = 4 := by kernel_rfl
theorem Yba.cells5 : Yba.prog.cellsOf 5 = 1 := by kernel_rfl

theorem steps_of {H : Type} {enc : TypeId × Value → H} {W : World} {a : Option Addr} {n c : Nat} {d : DataW H} {p : List MemPlace} (h : DataW.Trod enc Yba.prog W 0 (fun _ => true) true 22 (.slice a n c) d p) :
    n ≤ maxLen ∧ (n = 0 ∨ ∃ b off op st ep sq, a = some ⟨b, off, none⟩ ∧ Steps W b off n op st ep sq) := by
  obtain ⟨fuel, hf⟩ := h
  rcases open_slice Yba.underlying22 hf with ⟨hcs, _⟩ | ⟨x, len, cap, m, k, D, Pl, hcs, _, hl, hm, hmm, _, hx⟩
  · simp [Value.cells] at hcs
    exact ⟨by omega, .inl (by omega)⟩
  · simp [Value.cells] at hcs
    obtain ⟨rfl, rfl, rfl⟩ := hcs
    refine ⟨by omega, ?_⟩
    by_cases h0 : n = 0
    · exact .inl h0
    right
    simp only [if_true] at hmm
    have each : ∀ i, i < n → ∃ q : Int × Int × Int × Int, (W.cell? (x.add (i * 4)) = some (.int .u8 q.1) ∧ W.cell? (x.add (i * 4 + 1)) = some (.int .u8 q.2.1) ∧ W.cell? (x.add (i * 4 + 2)) = some (.int .u8 q.2.2.1) ∧ W.cell? (x.add (i * 4 + 3)) = some (.int .u64 q.2.2.2)) ∧
        (Lit.int .u8 q.1).wf = true ∧ (Lit.int .u8 q.2.1).wf = true ∧ (Lit.int .u8 q.2.2.1).wf = true ∧ (Lit.int .u64 q.2.2.2).wf = true := by
      intro i hi
      obtain ⟨cs', h1, h2⟩ := hx i (by omega)
      rw [Yba.cells32] at h1
      obtain ⟨_, hlen, hcell⟩ := World.cells?_some h1
      obtain ⟨xs, k', _, _, _, hxl, hfl⟩ := DataW.trod_struct Yba.underlying32 h2
      match xs, hxl, cs', hlen with
      | [y0, y1, y2, y3], _, [v0, v1, v2, v3], _ =>
        have g0 := hfl 0 _ rfl
        have g1 := hfl 1 _ rfl
        have g2 := hfl 2 _ rfl
        have g3 := hfl 3 _ rfl
        simp [Yba.cells5, Yba.cells27] at g0 g1 g2 g3
        obtain ⟨n0, e0, _, w0⟩ := DataW.trod_int Yba.underlying5 g0
        obtain ⟨n1, e1, _, w1⟩ := DataW.trod_int Yba.underlying5 g1
        obtain ⟨n2, e2, _, w2⟩ := DataW.trod_int Yba.underlying5 g2
        obtain ⟨n3, e3, _, w3⟩ := DataW.trod_int Yba.underlying27 g3
        simp at e0 e1 e2 e3
        subst e0 e1 e2 e3
        have c0 := hcell 0 (by omega)
        have c1 := hcell 1 (by omega)
        have c2 := hcell 2 (by omega)
        have c3 := hcell 3 (by omega)
        rw [add_add] at c0 c1 c2 c3
        exact ⟨(n0, n1, n2, n3), ⟨by simpa using c0, by simpa using c1, by simpa using c2, by simpa using c3⟩, w0, w1, w2, w3⟩
    obtain ⟨q, hq⟩ := choose_lt each
    obtain ⟨b, off, spot⟩ := x
    have hspot : spot = none := by simpa [Addr.add] using World.cell?_spot (hq 0 (by omega)).1.1
    subst hspot
    refine ⟨b, off, fun i => if i < n then (q i).1 else 0, fun i => if i < n then (q i).2.1 else 0, fun i => if i < n then (q i).2.2.1 else 0, fun i => if i < n then (q i).2.2.2 else 0, rfl, ?_⟩
    refine ⟨fun i hi => ?_, fun i hi => ?_, fun i hi => ?_, fun i hi => ?_, fun i => ?_, fun i => ?_, fun i => ?_, fun i => ?_⟩
    · have := (hq i hi).1.1
      rw [add_plain] at this
      simpa only [hi, if_true] using this
    · have := (hq i hi).1.2.1
      rw [add_plain, ← Nat.add_assoc] at this
      simpa only [hi, if_true] using this
    · have := (hq i hi).1.2.2.1
      rw [add_plain, ← Nat.add_assoc] at this
      simpa only [hi, if_true] using this
    · have := (hq i hi).1.2.2.2
      rw [add_plain, ← Nat.add_assoc] at this
      simpa only [hi, if_true] using this
    · by_cases hi : i < n
      · have := bounds_u8 (hq i hi).2.1
        simp only [hi, if_true]
        omega
      · simp [hi]
    · by_cases hi : i < n
      · have := bounds_u8 (hq i hi).2.2.1
        simp only [hi, if_true]
        omega
      · simp [hi]
    · by_cases hi : i < n
      · have := bounds_u8 (hq i hi).2.2.2.1
        simp only [hi, if_true]
        omega
      · simp [hi]
    · by_cases hi : i < n
      · have := bounds_u64 (hq i hi).2.2.2.2
        simp only [hi, if_true]
        omega
      · simp [hi]
end Go.Proofs.Ybulkfue
