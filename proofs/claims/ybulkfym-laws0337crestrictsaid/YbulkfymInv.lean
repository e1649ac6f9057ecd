/-
  LawS0337CRestrict: what its loops keep.
-/
import Derived.Test.YbulkfymF
namespace Go.Proofs.Ybulkfym
open Go.RowKit
open Go.Maps (Keyed)

def rep (i : Nat) : ByteArray := if i = 0 then ⟨#[97]⟩ else if i = 1 then ⟨#[98]⟩ else ⟨#[99]⟩
def nam (i : Nat) : ByteArray := if i = 0 then ⟨#[120]⟩ else if i = 1 then ⟨#[121]⟩ else ⟨#[]⟩
theorem rep_small (i : Nat) : (rep i).size ≤ maxLen := by
  unfold rep maxLen
  split
  · decide
  · split <;> decide
theorem rep_inj {i j : Nat} (hi : i < 3) (hj : j < 3) (h : rep i = rep j) : i = j := by
  have hi' : i = 0 ∨ i = 1 ∨ i = 2 := by omega
  have hj' : j = 0 ∨ j = 1 ∨ j = 2 := by omega
  rcases hi' with rfl | rfl | rfl <;> rcases hj' with rfl | rfl | rfl <;> first | rfl | (exfalso; revert h; decide)

/-- The context's map, of at most k entries. -/
def ctxK (w : World) (b : Nat) (V : ByteArray → Nat) (k : Nat) : Prop :=
  ∃ n f sz, n ≤ k ∧ mapIs w Yba.prog 25 b n f sz ∧ ∀ r : ByteArray, (f (.string r.data.toList)).getD (.int .u64 0) = .int .u64 (V r)
theorem ctxK.is {w : World} {b : Nat} {V : ByteArray → Nat} {k : Nat} (h : ctxK w b V k) : ctxIs w b V := by
  obtain ⟨n, f, sz, _, h1, h2⟩ := h
  exact ⟨n, f, sz, h1, h2⟩
theorem ctxK.of_block {w w' : World} {b : Nat} {V : ByteArray → Nat} {k : Nat} (h : ctxK w b V k) (e : w'.heap[b]? = w.heap[b]?) : ctxK w' b V k := by
  obtain ⟨n, f, sz, h0, h1, h2⟩ := h
  exact ⟨n, f, sz, h0, h1.of_block e, h2⟩
theorem ctxK.mono {w : World} {b : Nat} {V : ByteArray → Nat} {k : Nat} (h : ctxK w b V k) : ctxK w b V (k + 1) := by
  obtain ⟨n, f, sz, h0, r⟩ := h
  exact ⟨n, f, sz, by omega, r⟩
theorem ctxK_made (w : World) : ctxK (w.alloc (.map #[] 0)) w.heap.size (fun _ => 0) 0 :=
  ⟨0, fun _ => none, 0, Nat.le_refl _, mapIs_made w _ _, fun _ => rfl⟩
theorem ctxK.store {w : World} {b : Nat} {V : ByteArray → Nat} {k : Nat} (h : ctxK w b V k) (hk : k ≤ 10) (r : ByteArray) (hr : r.size ≤ maxLen) (c : Nat) :
    ∃ w', (Instr.mapUpdate 30 (.map (some b)) (.string r) (.int .u64 c)).run Yba.prog w = .ok () w' ∧ ctxK w' b (fun x => if x = r then c else V x) (k + 1) ∧
      w'.heap.size = w.heap.size ∧ w'.os = w.os ∧ w'.tape = w.tape ∧ w'.output = w.output ∧ (∀ i, i ≠ b → w'.heap[i]? = w.heap[i]?) := by
  obtain ⟨n, f, sz, h0, h1, h2⟩ := h
  obtain ⟨w', e1, e2, e3⟩ := h1.store (Maps.string_keyed Yba.underlying25) Yba.underlying30 (by unfold maxLen; omega) (val := .int .u64 c) (WideMaps.keyOf_string_mk Yba.underlying25 hr)
  refine ⟨w', e1, ⟨n + 1, _, _, by omega, e2, fun x => ?_⟩, e3⟩
  by_cases hx : x = r
  · subst hx
    simp
  · have hne : ¬ (Lit.string x.data.toList = Lit.string r.data.toList) := by
      intro he
      apply hx
      have := Lit.string.inj he
      exact ByteArray.ext (Array.toList_inj.1 this)
    simp only [hne, hx, if_false]
    exact h2 x

def cv (vf : Nat → Nat) (k j : Nat) : Value := .int .u64 ((if j < k then vf j % 8 else 0 : Nat) : Int)

/-- The first loop: the counts, and the map that holds those that are not zero. -/
structure Inv1 (B : Nat) (W4 : World) (vf : Nat → Nat) (k : Nat) (wr : World) : Prop where
  below : Below (B + 3) W4 wr
  size : wr.heap.size = B + 5
  cnt : blockIs wr (B + 3) #[cv vf k 0, cv vf k 1, cv vf k 2] 29
  ctx : ∃ V, ctxK wr (B + 4) V k ∧ ∀ j, j < 3 → V (rep j) = if j < k then vf j % 8 else 0

theorem Inv1.put {B : Nat} {W4 : World} {vf : Nat → Nat} {k : Nat} {wr : World} (h : Inv1 B W4 vf k wr) (hk : k < 3) :
    blockIs (wr.setCell ⟨B + 3, k, none⟩ (.int .u64 (vf k % 8 : Nat))) (B + 3) #[cv vf (k + 1) 0, cv vf (k + 1) 1, cv vf (k + 1) 2] 29 := by
  have := h.cnt.store k (.int .u64 (vf k % 8 : Nat))
  have hk' : k = 0 ∨ k = 1 ∨ k = 2 := by omega
  rcases hk' with rfl | rfl | rfl <;> exact this

theorem Inv1.zero {B : Nat} {W4 : World} {vf : Nat → Nat} {k : Nat} {wr : World} (h : Inv1 B W4 vf k wr) (hk : k < 3) (hz : vf k % 8 = 0) :
    Inv1 B W4 vf (k + 1) (wr.setCell ⟨B + 3, k, none⟩ (.int .u64 (vf k % 8 : Nat))) := by
  refine ⟨h.below.setCell (Nat.le_refl _) _, by simpa using h.size, h.put hk, ?_⟩
  obtain ⟨V, h1, h2⟩ := h.ctx
  refine ⟨V, (h1.of_block (Below.heap_setCell _ _ _ _ (by show B + 4 ≠ B + 3; omega))).mono, fun j hj => ?_⟩
  rw [h2 j hj]
  by_cases hjk : j = k
  · subst hjk
    simp [hz]
  · have e : (j < k + 1) = (j < k) := by simp only [eq_iff_iff]; omega
    simp only [e]

theorem Inv1.pos {B : Nat} {W4 : World} {vf : Nat → Nat} {k : Nat} {wr : World} (h : Inv1 B W4 vf k wr) (hk : k < 3) :
    ∃ w', (Instr.mapUpdate 30 (.map (some (B + 4))) (.string (rep k)) (.int .u64 (vf k % 8 : Nat))).run Yba.prog (wr.setCell ⟨B + 3, k, none⟩ (.int .u64 (vf k % 8 : Nat))).drew = .ok () w' ∧ Inv1 B W4 vf (k + 1) w' := by
  obtain ⟨V, h1, h2⟩ := h.ctx
  have h1' : ctxK (wr.setCell ⟨B + 3, k, none⟩ (.int .u64 (vf k % 8 : Nat))).drew (B + 4) V k := h1.of_block (Below.heap_setCell _ _ _ _ (by show B + 4 ≠ B + 3; omega))
  obtain ⟨w', e1, e2, e3, e4, e5, e6, e7⟩ := h1'.store (by omega) (rep k) (rep_small k) (vf k % 8)
  refine ⟨w', e1, ⟨Below.trans (h.below.setCell (p := ⟨B + 3, k, none⟩) (Nat.le_refl _) _).drew ⟨e4, e5, e6, by rw [e3]; exact Nat.le_refl _, fun i hi => e7 i (by omega)⟩, ?_, (h.put hk).of_block (e7 _ (by omega)), _, e2, fun j hj => ?_⟩⟩
  · rw [e3]
    simpa using h.size
  · by_cases hjk : j = k
    · subst hjk
      simp
    · have e : (j < k + 1) = (j < k) := by simp only [eq_iff_iff]; omega
      have hne : ¬ rep j = rep k := fun he => hjk (rep_inj hj hk he)
      simp only [e, hne, if_false]
      exact h2 j hj

theorem Inv1.cell {B : Nat} {W4 : World} {vf : Nat → Nat} {k : Nat} {wr : World} (h : Inv1 B W4 vf k wr) {g : Nat} {cs : Array Value} {t : TypeId} (hg : blockIs W4 g cs t) (hl : g < B + 3) (j : Nat) : wr.cell? ⟨g, j, none⟩ = cs[j]? :=
  (hg.of_block (h.below.block g hl)).cellAt j

/-- The cells of a list, in a row. -/
def cellsOf (cells : El → List Value) (L : List El) (j : Nat) : Value := ((L.flatMap cells)[j]?).getD (.bool false)
theorem cellsOf_at {cells : El → List Value} {m : Nat} (hc : ∀ x, (cells x).length = m) {L : List El} {k : Nat} (h : k < L.length) {j : Nat} {u : Value} (hu : (cells L[k])[j]? = some u) : cellsOf cells L (k * m + j) = u := by
  unfold cellsOf
  rw [flat_get hc L k h j u hu]
  rfl

theorem row_ha {cells : El → List Value} {m : Nat} (hc : ∀ x, (cells x).length = m) {L : List El} {k : Nat} (h : k < L.length) {x : El} (hx : x = L[k]) {w : World} {ad : Addr} (hn : ∀ j u, (cells x)[j]? = some u → w.cell? (ad.add j) = some u) :
    ∀ j, j < m → w.cell? (ad.add j) = some (cellsOf cells L (k * m + j)) := by
  subst hx
  intro j hj
  have hj' : j < (cells L[k]).length := by rw [hc]; exact hj
  have hu : (cells L[k])[j]? = some (cells L[k])[j] := List.getElem?_eq_getElem hj'
  rw [hn j _ hu, cellsOf_at hc h hu]
theorem row_h1 {cells : El → List Value} {m : Nat} (hc : ∀ x, (cells x).length = m) (h1 : ∀ x, ∀ u ∈ cells x, u.oneCell' = true) {L : List El} {k : Nat} (h : k < L.length) :
    ∀ j, j < m → (cellsOf cells L (k * m + j)).oneCell' = true := by
  intro j hj
  have hj' : j < (cells L[k]).length := by rw [hc]; exact hj
  rw [cellsOf_at hc h (List.getElem?_eq_getElem hj')]
  exact h1 _ _ (List.getElem_mem _)

/-- The loops that gather: the whole list in the row g, and what is observed of it in wv. -/
structure Inv2 (g e m : Nat) (cells : El → List Value) (V : ByteArray → Nat) (L : List El) (W0 : World) (k : Nat) (wv : Value) (wr : World) : Prop where
  below : Below g W0 wr
  row : rowsAt wr g e m L.length k (cellsOf cells L)
  own : wr.ownsRow (g + 1) e m wv (kept V L k).length ((kept V L k).flatMap cells)
  size : g + 1 ≤ wr.heap.size

section
variable {g e m : Nat} {cells : El → List Value} {V : ByteArray → Nat} {L : List El} {W0 wr w1 wb w2 wd : World} {k : Nat} {wv wv' : Value}

theorem Inv2.later (h : Inv2 g e m cells V L W0 k wv wr) (hb : Below wr.heap.size wr w1) : Inv2 g e m cells V L W0 k wv w1 := by
  have hs := h.size
  have hbs := hb.size
  exact ⟨h.below.trans (hb.mono (by omega)), h.row.of_block (hb.block g (by omega)), owns_below h.own hb, by omega⟩

/-- Behind the first append. -/
theorem Inv2.mid (h : Inv2 g e m cells V L W0 k wv w1) (hg : w1.grownBy wb (some g)) : Below g W0 wb ∧ wb.ownsRow (g + 1) e m wv (kept V L k).length ((kept V L k).flatMap cells) ∧ g + 1 ≤ wb.heap.size := by
  have hs := h.size
  have hbs := hg.size
  refine ⟨h.below.trans ⟨hg.os, hg.tape, hg.output, hg.size, fun i hi => hg.block i (by omega) (by simp; omega)⟩, h.own.kept hg ?_, by omega⟩
  cases hv : wv.ownBlock with
  | none => exact .inl rfl
  | some q =>
    right
    have := (h.own.lt q hv).1
    simp
    omega
theorem Inv2.miss (h : Inv2 g e m cells V L W0 k wv w1) (hk : k < L.length) (ho : obs V L[k] = false) (hg : w1.grownBy wb (some g)) (hr : rowsAt wb g e m L.length (k + 1) (cellsOf cells L)) : Inv2 g e m cells V L W0 (k + 1) wv wb := by
  obtain ⟨h1, h2, h3⟩ := h.mid hg
  exact ⟨h1, hr, by rw [kept_miss hk ho]; exact h2, h3⟩
theorem Inv2.hit (h : Inv2 g e m cells V L W0 k wv w1) (hk : k < L.length) (ho : obs V L[k] = true) (hg : w1.grownBy wb (some g)) (hr : rowsAt wb g e m L.length (k + 1) (cellsOf cells L)) (hb : Below wb.heap.size wb w2)
    (hg2 : w2.grownBy wd wv.ownBlock) (ho2 : wd.ownsRow (g + 1) e m wv' ((kept V L k).length + 1) ((kept V L k).flatMap cells ++ cells L[k])) : Inv2 g e m cells V L W0 (k + 1) wv' wd := by
  obtain ⟨h1, h2, h3⟩ := h.mid hg
  have hbs := hb.size
  have hgs := hg2.size
  have hwv : ∀ q, wv.ownBlock = some q → g + 1 ≤ q := fun q hq => (h2.lt q hq).1
  refine ⟨h1.trans (Below.trans (hb.mono (by omega)) ⟨hg2.os, hg2.tape, hg2.output, hg2.size, fun i hi => hg2.block i (by omega) (fun e => ?_)⟩), (hr.of_block (hb.block g (by omega))).of_block (hg2.block g (by omega) (fun e => ?_)), ?_, by omega⟩
  · have := hwv i e.symm
    omega
  · have := hwv g e.symm
    omega
  · rw [kept_hit hk ho, List.length_append, List.flatMap_append]
    simpa using ho2
theorem Inv2.hasAll (hc : ∀ x, (cells x).length = m) (h : Inv2 g e m cells V L W0 L.length wv wr) (q : Nat) (hq : g < q) : ∃ c, hasE q m cells wr (.slice (some ⟨g, 0, none⟩) L.length c) L ∧ c = L.length := by
  refine ⟨L.length, ⟨some ⟨g, 0, none⟩, L.length, rfl, by simp, fun a ha => ⟨g, by simpa using ha.symm, by omega, h.row.lt, fun k hk j u hu => ?_⟩⟩, rfl⟩
  have hj : j < m := by rw [← hc L[k]]; exact (List.getElem?_eq_some_iff.1 hu).1
  have : k * m + j < L.length * m := Nat.lt_of_lt_of_le (by rw [Nat.succ_mul]; omega) (Nat.mul_le_mul_right m hk)
  rw [h.row.cellAt this, cellsOf_at hc hk hu]
theorem Inv2.hasKept (hc : ∀ x, (cells x).length = m) (h : Inv2 g e m cells V L W0 L.length wv wr) : hasE g m cells wr wv (L.filter (obs V)) := by
  have := h.own
  rw [kept_all] at this
  exact has_of_owns hc this (by omega)
end

theorem hasE.other {q q' m : Nat} {cells : El → List Value} {w : World} {v : Value} {L : List El} (h : hasE q m cells w v L) (hq : w.heap.size ≤ q') : hasE q' m cells w v L :=
  h.of_blocks (Nat.le_refl _) fun g hg _ => ⟨by omega, rfl⟩

/-- A slice of dots that came in. -/
structure DotsIn (w : World) (a : Option Addr) (n b off : Nat) (R C : Nat → Nat) : Prop where
  at_ : 0 < n → a = some ⟨b, off, none⟩
  lt : 0 < n → b < w.heap.size
  c0 : ∀ i, i < n → w.cell? ⟨b, off + i * 2, none⟩ = some (.int .u8 (R i))
  c1 : ∀ i, i < n → w.cell? ⟨b, off + i * 2 + 1, none⟩ = some (.int .u8 (C i))
  r0 : ∀ i, R i ≤ 255
  r1 : ∀ i, C i ≤ 255
/-- A slice of keys that came in. -/
structure KeysIn (w : World) (a : Option Addr) (n b off : Nat) (R C N : Nat → Nat) : Prop where
  at_ : 0 < n → a = some ⟨b, off, none⟩
  lt : 0 < n → b < w.heap.size
  c0 : ∀ i, i < n → w.cell? ⟨b, off + i * 3, none⟩ = some (.int .u8 (R i))
  c1 : ∀ i, i < n → w.cell? ⟨b, off + i * 3 + 1, none⟩ = some (.int .u8 (C i))
  c2 : ∀ i, i < n → w.cell? ⟨b, off + i * 3 + 2, none⟩ = some (.int .u8 (N i))
  r0 : ∀ i, R i ≤ 255
  r1 : ∀ i, C i ≤ 255
  r2 : ∀ i, N i ≤ 255

def listD (n : Nat) (R C : Nat → Nat) : List El := (List.range n).map fun i => (rep (R i % 3), C i % 8, ByteArray.empty)
def listK (n : Nat) (R C N : Nat → Nat) : List El := (List.range n).map fun i => (rep (R i % 3), C i % 8, nam (N i % 3))
theorem listD_len (n : Nat) (R C : Nat → Nat) : (listD n R C).length = n := by simp [listD]
theorem listK_len (n : Nat) (R C N : Nat → Nat) : (listK n R C N).length = n := by simp [listK]
theorem listD_at {n : Nat} {R C : Nat → Nat} {k : Nat} (h : k < (listD n R C).length) : (listD n R C)[k] = (rep (R k % 3), C k % 8, ByteArray.empty) := by simp [listD]
theorem listK_at {n : Nat} {R C N : Nat → Nat} {k : Nat} (h : k < (listK n R C N).length) : (listK n R C N)[k] = (rep (R k % 3), C k % 8, nam (N k % 3)) := by simp [listK]
theorem listD_small (n : Nat) (R C : Nat → Nat) : ∀ x ∈ listD n R C, x.1.size ≤ maxLen := by
  intro x hx
  simp only [listD, List.mem_map] at hx
  obtain ⟨i, _, rfl⟩ := hx
  exact rep_small _
theorem listK_small (n : Nat) (R C N : Nat → Nat) : ∀ x ∈ listK n R C N, x.1.size ≤ maxLen := by
  intro x hx
  simp only [listK, List.mem_map] at hx
  obtain ⟨i, _, rfl⟩ := hx
  exact rep_small _

end Go.Proofs.Ybulkfym
