/-
  LawS0341AFree: the state behind the call of free.
-/
import Derived.Test.YbulkgaqInv
namespace Go.Proofs.Ybulkgaq
open Go.RowKit
open Go.Maps (Keyed)

/-- The state behind free of the place j. -/
structure Fin2 (B nb n : Nat) (w0 : World) (H Sh : Nat → Bool) (S : Nat → Int) (fr : Nat → Bool) (tk : Nat → Int) (j : Nat) (wr : World) : Prop where
  bs : blockIs wr (B + 2) (bcells (B + 1) (.slice (some ⟨B + 3, 0, none⟩) n n)) 31
  mp : mapSt wr (B + 1) (nb + 1) (upd H j true) (upd Sh j false) (upd S j (-1))
  tn : rowsAt wr (B + 3) 34 1 (n * 7) (n * 7) (tcell (fun i => fr i || (H j && decide (S j = (i : Int)))) tk)
  hv : rowsAt wr (B + 4) 35 1 16 16 (fun i => .bool (H i))
  ws : rowsAt wr (B + 5) 38 1 32 32 (wcell Sh S)
  below : Below B w0 wr
  size : B + 6 ≤ wr.heap.size

section
variable {B nb n : Nat} {w0 wr w' : World} {H Sh : Nat → Bool} {S : Nat → Int} {fr : Nat → Bool} {tk : Nat → Int}
theorem Fin2.later {j : Nat} (h : Fin2 B nb n w0 H Sh S fr tk j wr) (hb : Below wr.heap.size wr w') : Fin2 B nb n w0 H Sh S fr tk j w' := by
  have hs := h.size
  have hbs := hb.size
  exact ⟨h.bs.of_block (hb.block _ (by omega)), h.mp.of_block (hb.block _ (by omega)), h.tn.of_block (hb.block _ (by omega)), h.hv.of_block (hb.block _ (by omega)), h.ws.of_block (hb.block _ (by omega)), h.below.trans (hb.mono (by omega)), by omega⟩

theorem free_any (hI : Inv B nb n w0 H Sh S fr tk wr) (hnb : nb ≤ 2000) {p a : Nat} (hp : p < 4) (ha : a < 4) :
    Calls Yba.prog 5 #[.pointer (some ⟨B + 2, 0, none⟩), .agg #[.int .u64 p, .int .u64 a]] wr fun e w' => e = .returned (.tuple #[]) ∧ Fin2 B nb n w0 H Sh S fr tk (p * 4 + a) w' := by
  have hs := hI.size
  by_cases hk : H (p * 4 + a) = true → S (p * 4 + a) < 0
  · refine (free_keep (B + 2) (B + 1) (B + 3) nb n p a H Sh S wr hI.bs hI.mp hnb hp ha hk).mono fun e w' ⟨he, hm, ho⟩ => ⟨he, ?_⟩
    have hb : ∀ k, k < wr.heap.size → k ≠ B + 1 → w'.heap[k]? = wr.heap[k]? := fun k h1 h2 => ho.block k h1 h2 h2
    have hos := ho.size
    refine ⟨hI.bs.of_block (hb _ (by omega) (by omega)), hm, ?_, hI.hv.of_block (hb _ (by omega) (by omega)), hI.ws.of_block (hb _ (by omega) (by omega)), hI.below.trans ⟨ho.os, ho.tape, ho.output, ho.size, fun k hk => hb k (by omega) (by omega)⟩, by omega⟩
    have hf : (fun i : Nat => fr i || (H (p * 4 + a) && decide (S (p * 4 + a) = (i : Int)))) = fr := by
      funext i
      cases hH : H (p * 4 + a) with
      | false => simp
      | true =>
        have := hk hH
        have hne : ¬ S (p * 4 + a) = (i : Int) := by omega
        simp [hne]
    rw [hf]
    exact hI.tn.of_block (hb _ (by omega) (by omega))
  · have hH : H (p * 4 + a) = true := by
      cases h : H (p * 4 + a) with
      | true => rfl
      | false => exact absurd (fun h' => by rw [h] at h'; cases h') hk
    have hS : 0 ≤ S (p * 4 + a) := by
      by_cases h : 0 ≤ S (p * 4 + a)
      · exact h
      · exact absurd (fun _ => by omega) hk
    have hr := hI.rng _ hH
    obtain ⟨t, ht⟩ : ∃ t : Nat, S (p * 4 + a) = t := ⟨(S (p * 4 + a)).toNat, by omega⟩
    refine (free_mark (B + 2) (B + 1) (B + 3) nb n p a t (tcell fr tk) H Sh S wr hI.bs hI.mp (by omega) (by omega) hnb hp ha hH ht (by omega) hI.tn ⟨_, (tcell_at fr tk t).2.2.1⟩).mono fun e w' ⟨he, hm, ho, hrow⟩ => ⟨he, ?_⟩
    have hb : ∀ k, k < wr.heap.size → k ≠ B + 1 → k ≠ B + 3 → w'.heap[k]? = wr.heap[k]? := ho.block
    have hos := ho.size
    refine ⟨hI.bs.of_block (hb _ (by omega) (by omega) (by omega)), hm, ?_, hI.hv.of_block (hb _ (by omega) (by omega) (by omega)), hI.ws.of_block (hb _ (by omega) (by omega) (by omega)), hI.below.trans ⟨ho.os, ho.tape, ho.output, ho.size, fun k hk => hb k (by omega) (by omega) (by omega)⟩, by omega⟩
    have hf : (fun i : Nat => fr i || (H (p * 4 + a) && decide (S (p * 4 + a) = (i : Int)))) = upd fr t true := by
      funext i
      simp only [upd, hH, ht, Bool.true_and]
      by_cases hi : i = t
      · subst hi
        simp
      · have hne : ¬ (t : Int) = (i : Int) := by omega
        simp [hi, hne]
    rw [hf]
    exact hrow.congr fun j _ => tcell_freed fr tk t true j
end

/-- A slice of bytes that came in. -/
structure BytesIn (w : World) (a : Option Addr) (n b off : Nat) (X : Nat → Nat) : Prop where
  at_ : 0 < n → a = some ⟨b, off, none⟩
  lt : 0 < n → b < w.heap.size
  c0 : ∀ i, i < n → w.cell? ⟨b, off + i, none⟩ = some (.int .u8 (X i))
  r0 : ∀ i, X i ≤ 255
/-- A slice of bools that came in. -/
structure BoolsIn (w : World) (a : Option Addr) (n b off : Nat) (X : Nat → Bool) : Prop where
  at_ : 0 < n → a = some ⟨b, off, none⟩
  lt : 0 < n → b < w.heap.size
  c0 : ∀ i, i < n → w.cell? ⟨b, off + i, none⟩ = some (.bool (X i))

/-- What the first loop leaves of the tenancies. -/
structure Ten (nf : Nat) (F : Nat → Bool) (k : Nat) (fr : Nat → Bool) (tk : Nat → Int) : Prop where
  f : ∀ i, i < k → fr i = (decide (i < nf) && F i)
  t : ∀ i, i < k → tk i = -1
  z : ∀ i, k ≤ i → fr i = false
end Go.Proofs.Ybulkgaq
