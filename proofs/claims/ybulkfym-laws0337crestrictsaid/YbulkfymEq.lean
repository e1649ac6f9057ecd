/-
  The callees of LawS0337CRestrict, fifth part: slices.Equal of two slices that hold the same list.
-/
import Derived.Test.YbulkfymIdx
namespace Go.Proofs.Ybulkfym
open Go.RowKit
open Go.Maps (Keyed)

set_option maxRecDepth 100000 in
set_option maxHeartbeats 1000000 in
theorem equal_dot (q1 q2 : Nat) (L : List El) (v1 v2 : Value) (w : World) (hn : L.length ≤ 1024) (hv : hasE q1 2 dcells w v1 L) (hv' : hasE q2 2 dcells w v2 L) :
    Calls Yba.prog 6 #[v1, v2] w fun e w' => e = .returned (.bool true) ∧ ∃ m, w' = w.drewN m := by
  obtain ⟨ao, cp, rfl, hv1, hv2⟩ := hv
  obtain ⟨ao', cp', rfl, hv1', hv2'⟩ := hv'
  go_enter Yba.func6, Yba.ntmps6
  go_wp2
  go_loopw [13] (fun i wr => ∃ k m : Nat, k ≤ L.length ∧ i = .int .i64 k ∧ wr = w.drewN m) (fun i _ => L.length - (intOf i).toNat)
  case atStart => exact ⟨0, 0, Nat.zero_le _, rfl, rfl⟩
  case round =>
    obtain ⟨k, m, hk, rfl, rfl⟩ := hrel
    by_cases hlt : k < L.length
    · obtain ⟨g, rfl, hgq, hgl, hg⟩ : ∃ g, ao = some ⟨g, 0, none⟩ ∧ g ≠ q1 ∧ g < w.heap.size ∧ ∀ k (h : k < L.length) j u, (dcells L[k])[j]? = some u → w.cell? ⟨g, k * 2 + j, none⟩ = some u := by
        cases ao with
        | none => rw [hv1 rfl] at hlt; simp at hlt
        | some a => obtain ⟨g, e, r⟩ := hv2 a rfl; exact ⟨g, by rw [e], r⟩
      obtain ⟨g', rfl, hgq', hgl', hg'⟩ : ∃ g, ao' = some ⟨g, 0, none⟩ ∧ g ≠ q2 ∧ g < w.heap.size ∧ ∀ k (h : k < L.length) j u, (dcells L[k])[j]? = some u → w.cell? ⟨g, k * 2 + j, none⟩ = some u := by
        cases ao' with
        | none => rw [hv1' rfl] at hlt; simp at hlt
        | some a => obtain ⟨g, e, r⟩ := hv2' a rfl; exact ⟨g, by rw [e], r⟩
      obtain ⟨x, hx⟩ : ∃ x, x = L[k] := ⟨_, rfl⟩
      have c0 : w.cell? ⟨g, k * 2, none⟩ = some (.string x.1) := hg k hlt 0 _ (by rw [hx]; rfl)
      have c1 : w.cell? ⟨g, k * 2 + 1, none⟩ = some (.int .u64 x.2.1) := hg k hlt 1 _ (by rw [hx]; rfl)
      have d0 : w.cell? ⟨g', k * 2, none⟩ = some (.string x.1) := hg' k hlt 0 _ (by rw [hx]; rfl)
      have d1 : w.cell? ⟨g', k * 2 + 1, none⟩ = some (.int .u64 x.2.1) := hg' k hlt 1 _ (by rw [hx]; rfl)
      have hi : (k : Int) < (L.length : Int) := by omega
      have hi0 : (0 : Int) ≤ (k : Int) := by omega
      clear hx hg hg' hv1 hv2 hv1' hv2' hgq hgq' hgl hgl'
      go_wp2_with fail
      go_quiet (fail)
      go_wp2
      go_roundw
      case rel => exact ⟨k + 1, m + nq, by omega, by go_num, rfl⟩
      case measure => simp [intOf]; omega
    · have hge : ¬ (k : Int) < (L.length : Int) := by omega
      go_wp2
      go_ret
      exact ⟨rfl, m, rfl⟩

set_option maxRecDepth 100000 in
set_option maxHeartbeats 1000000 in
theorem equal_key (q1 q2 : Nat) (L : List El) (v1 v2 : Value) (w : World) (hn : L.length ≤ 1024) (hv : hasE q1 4 kcells w v1 L) (hv' : hasE q2 4 kcells w v2 L) :
    Calls Yba.prog 5 #[v1, v2] w fun e w' => e = .returned (.bool true) ∧ ∃ m, w' = w.drewN m := by
  obtain ⟨ao, cp, rfl, hv1, hv2⟩ := hv
  obtain ⟨ao', cp', rfl, hv1', hv2'⟩ := hv'
  go_enter Yba.func5, Yba.ntmps5
  go_wp2
  go_loopw [13] (fun i wr => ∃ k m : Nat, k ≤ L.length ∧ i = .int .i64 k ∧ wr = w.drewN m) (fun i _ => L.length - (intOf i).toNat)
  case atStart => exact ⟨0, 0, Nat.zero_le _, rfl, rfl⟩
  case round =>
    obtain ⟨k, m, hk, rfl, rfl⟩ := hrel
    by_cases hlt : k < L.length
    · obtain ⟨g, rfl, hgq, hgl, hg⟩ : ∃ g, ao = some ⟨g, 0, none⟩ ∧ g ≠ q1 ∧ g < w.heap.size ∧ ∀ k (h : k < L.length) j u, (kcells L[k])[j]? = some u → w.cell? ⟨g, k * 4 + j, none⟩ = some u := by
        cases ao with
        | none => rw [hv1 rfl] at hlt; simp at hlt
        | some a => obtain ⟨g, e, r⟩ := hv2 a rfl; exact ⟨g, by rw [e], r⟩
      obtain ⟨g', rfl, hgq', hgl', hg'⟩ : ∃ g, ao' = some ⟨g, 0, none⟩ ∧ g ≠ q2 ∧ g < w.heap.size ∧ ∀ k (h : k < L.length) j u, (kcells L[k])[j]? = some u → w.cell? ⟨g, k * 4 + j, none⟩ = some u := by
        cases ao' with
        | none => rw [hv1' rfl] at hlt; simp at hlt
        | some a => obtain ⟨g, e, r⟩ := hv2' a rfl; exact ⟨g, by rw [e], r⟩
      obtain ⟨x, hx⟩ : ∃ x, x = L[k] := ⟨_, rfl⟩
      have c0 : w.cell? ⟨g, k * 4, none⟩ = some (.string x.1) := hg k hlt 0 _ (by rw [hx]; rfl)
      have c1 : w.cell? ⟨g, k * 4 + 1, none⟩ = some (.int .u64 x.2.1) := hg k hlt 1 _ (by rw [hx]; rfl)
      have d0 : w.cell? ⟨g', k * 4, none⟩ = some (.string x.1) := hg' k hlt 0 _ (by rw [hx]; rfl)
      have d1 : w.cell? ⟨g', k * 4 + 1, none⟩ = some (.int .u64 x.2.1) := hg' k hlt 1 _ (by rw [hx]; rfl)
      have c2 : w.cell? ⟨g, k * 4 + 2, none⟩ = some (.string x.2.2) := hg k hlt 2 _ (by rw [hx]; rfl)
      have c3 : w.cell? ⟨g, k * 4 + 3, none⟩ = some (.int .u8 1) := hg k hlt 3 _ rfl
      have d2 : w.cell? ⟨g', k * 4 + 2, none⟩ = some (.string x.2.2) := hg' k hlt 2 _ (by rw [hx]; rfl)
      have d3 : w.cell? ⟨g', k * 4 + 3, none⟩ = some (.int .u8 1) := hg' k hlt 3 _ rfl
      have hi : (k : Int) < (L.length : Int) := by omega
      have hi0 : (0 : Int) ≤ (k : Int) := by omega
      clear hx hg hg' hv1 hv2 hv1' hv2' hgq hgq' hgl hgl'
      go_wp2_with fail
      go_quiet (fail)
      go_wp2
      go_roundw
      case rel => exact ⟨k + 1, m + nq, by omega, by go_num, rfl⟩
      case measure => simp [intOf]; omega
    · have hge : ¬ (k : Int) < (L.length : Int) := by omega
      go_wp2
      go_ret
      exact ⟨rfl, m, rfl⟩

end Go.Proofs.Ybulkfym
