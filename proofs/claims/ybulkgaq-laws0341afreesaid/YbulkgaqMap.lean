/-
  A map in memory as a function from keys to values: 'mapIs'. Over the library's 'ownsMap', at the reader that takes every value for itself.
-/
import Derived.Maps.OwnSet
import Derived.WalkSmall
import Derived.Deep.Draws
namespace Go.Proofs.Ybulkgaq
open Go.RowKit
open Go.Maps (Keyed)

/-- Every value reads as itself. -/
def tokR (v : Value) : Option (DataW Value × List MemPlace) := some (.held v, [])

/-- BLOCK b IS A MAP OF sz ENTRIES (at most n) THAT HOLDS AT THE KEY kl THE VALUE f kl. -/
def mapIs (w : World) (P : Program) (k : TypeId) (b n : Nat) (f : Lit → Option Value) (sz : Nat) : Prop :=
  ∃ D : DataW Value, w.ownsMap P k tokR b n D ∧ (∀ kl, Maps.has D kl = (f kl).isSome) ∧ (∀ kl z, D.atKey kl (.held z) = .held ((f kl).getD z)) ∧ Maps.size D = sz

section
variable {P : Program} {k : TypeId} {w : World} {b n : Nat} {f : Lit → Option Value} {sz : Nat}

theorem mapIs_made (w : World) (P : Program) (k : TypeId) : mapIs (w.alloc (.map #[] 0)) P k w.heap.size 0 (fun _ => none) 0 :=
  ⟨.map [], World.ownsMap_made w P k tokR, fun _ => rfl, fun _ _ => rfl, rfl⟩

theorem mapIs.of_block {w' : World} (h : mapIs w P k b n f sz) (e : w'.heap[b]? = w.heap[b]?) : mapIs w' P k b n f sz := by
  obtain ⟨D, ⟨es, clock, hb, r⟩, h1, h2, h3⟩ := h
  exact ⟨D, ⟨es, clock, e.trans hb, r⟩, h1, h2, h3⟩

theorem mapIs.lt (h : mapIs w P k b n f sz) : b < w.heap.size := by
  obtain ⟨D, ho, _⟩ := h
  exact ho.lt

theorem mapIs.mono (h : mapIs w P k b n f sz) {n' : Nat} (hn : n ≤ n') : mapIs w P k b n' f sz := by
  obtain ⟨D, ho, r⟩ := h
  exact ⟨D, ho.mono hn, r⟩

theorem mapIs.congr (h : mapIs w P k b n f sz) {g : Lit → Option Value} (e : ∀ kl, g kl = f kl) : mapIs w P k b n g sz := by
  have : g = f := funext e
  rw [this]
  exact h

/-- No cell of a map's block can be read: so a block with a cell is another one. -/
theorem mapIs.no_cell (h : mapIs w P k b n f sz) (o : Nat) : w.cell? ⟨b, o, none⟩ = none := by
  obtain ⟨D, ⟨es, clock, hb, _⟩, _⟩ := h
  simp [World.cell?, hb]

theorem mapIs.ne_cells (h : mapIs w P k b n f sz) {g : Nat} {cs : Array Value} {t : TypeId} {fr : Nat × Nat} (hg : w.heap[g]? = some (.cells cs t fr)) : g ≠ b := by
  obtain ⟨D, ⟨es, clock, hb, _⟩, _⟩ := h
  rintro rfl
  rw [hb] at hg
  cases hg

/-- 'm[k]'. -/
theorem mapIs.look {t e : TypeId} (h : mapIs w P k b n f sz) (K : Keyed P k) (ht : P.underlying t = some (.map k e)) {z : Value} (hz : (zeroValue e).run P w = .ok z w) {key : Value} {kl : Lit} (hkey : keyOf P k key = some kl) :
    (Instr.lookup t (.map (some b)) key false).run P w = .ok ((f kl).getD z) w := by
  obtain ⟨D, ho, _, h2, _⟩ := h
  obtain ⟨v, ps, hrun, hv⟩ := ho.lookup K ht hz (zd := .held z) (zp := []) rfl hkey
  rw [hrun]
  rw [h2] at hv
  simp [tokR] at hv
  rw [hv.1]

/-- 'v, ok := m[k]'. -/
theorem mapIs.look_ok {t e : TypeId} (h : mapIs w P k b n f sz) (K : Keyed P k) (ht : P.underlying t = some (.map k e)) {z : Value} (hz : (zeroValue e).run P w = .ok z w) {key : Value} {kl : Lit} (hkey : keyOf P k key = some kl) :
    (Instr.lookup t (.map (some b)) key true).run P w = .ok (.tuple #[(f kl).getD z, .bool (f kl).isSome]) w := by
  obtain ⟨D, ho, h1, h2, _⟩ := h
  obtain ⟨v, ps, hrun, hv⟩ := ho.look_ok K ht hz (zd := .held z) (zp := []) rfl hkey
  rw [hrun, h1]
  rw [h2] at hv
  simp [tokR] at hv
  rw [hv.1]

/-- 'len(m)'. -/
theorem mapIs.len {t e : TypeId} (h : mapIs w P k b n f sz) (ht : P.underlying t = some (.map k e)) (ty : TypeId) : (Builtin.len_ #[t] ty #[.map (some b)]).run P w = .ok (.int .i64 sz) w := by
  obtain ⟨D, ho, _, _, h3⟩ := h
  rw [ho.len ht ty, h3]

theorem mapIs.size_le (h : mapIs w P k b n f sz) : sz ≤ n := by
  obtain ⟨D, ho, _, _, h3⟩ := h
  have := ho.size_le
  omega

open Classical in
/-- 'm[k] = v'. -/
theorem mapIs.store {t e : TypeId} (h : mapIs w P k b n f sz) (K : Keyed P k) (ht : P.underlying t = some (.map k e)) (hn : n < maxLen) {key val : Value} {kl : Lit} (hkey : keyOf P k key = some kl) :
    ∃ w', (Instr.mapUpdate t (.map (some b)) key val).run P w = .ok () w' ∧ mapIs w' P k b (n + 1) (fun x => if x = kl then some val else f x) (if (f kl).isSome then sz else sz + 1) ∧
      w'.heap.size = w.heap.size ∧ w'.os = w.os ∧ w'.tape = w.tape ∧ w'.output = w.output ∧ (∀ i, i ≠ b → w'.heap[i]? = w.heap[i]?) := by
  obtain ⟨D, ho, h1, h2, h3⟩ := h
  obtain ⟨w', hrun, ho', ht'⟩ := ho.store K ht hn hkey (val := val) (d := .held val) (ps := []) rfl
  have hik := K.key hkey
  refine ⟨w', hrun, ⟨_, ho', ?_, ?_, ?_⟩, ?_⟩
  · intro x
    by_cases hx : x = kl
    · subst hx
      rw [Maps.has_put_same ho.isMap hik]
      simp
    · rw [Maps.has_put_other hx, h1]
      simp [hx]
  · intro x z
    by_cases hx : x = kl
    · subst hx
      rw [Maps.atKey_put_same ho.isMap hik]
      simp
    · rw [Maps.atKey_put_other hx, h2]
      simp [hx]
  · rw [Maps.size_put (ho.tidy K), h1, h3]
  · have hg := ht'.grown
    obtain ⟨es, clock, es', clock', hb, rfl⟩ := ht'
    exact ⟨by simp [ChangeMaps.setBlock], rfl, rfl, rfl, fun i hi => ChangeMaps.heap_setBlock_other hb _ hi⟩
end
end Go.Proofs.Ybulkgaq
