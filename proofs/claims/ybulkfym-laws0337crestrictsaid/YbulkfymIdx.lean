/-
  The callees of LawS0337CRestrict, third part: slices.IndexFunc, slices.ContainsFunc, observedIn, slices.Equal.
-/
import Derived.Test.YbulkfymIn
import Derived.Test.YbulkfymRow
namespace Go.Proofs.Ybulkfym
open Go.RowKit
open Go.Maps (Keyed)

/-- A dot (replica, count), and a key's name beside it. -/
abbrev El := ByteArray × Nat × ByteArray
def dcells (x : El) : List Value := [.string x.1, .int .u64 x.2.1]
def kcells (x : El) : List Value := [.string x.1, .int .u64 x.2.1, .string x.2.2, .int .u8 1]
def obs (V : ByteArray → Nat) (x : El) : Bool := decide (x.2.1 ≤ V x.1)

/-- The slice v holds the list L; its block is not q. -/
def hasE (q m : Nat) (cells : El → List Value) (w : World) (v : Value) (L : List El) : Prop :=
  ∃ ao c, v = .slice ao L.length c ∧ (ao = none → L = []) ∧ ∀ a, ao = some a → ∃ g, a = ⟨g, 0, none⟩ ∧ g ≠ q ∧ g < w.heap.size ∧ ∀ k (h : k < L.length) j u, (cells L[k])[j]? = some u → w.cell? ⟨g, k * m + j, none⟩ = some u

theorem hasE.of_blocks {q q' m : Nat} {cells : El → List Value} {w w' : World} {v : Value} {L : List El} (h : hasE q m cells w v L) (hs : w.heap.size ≤ w'.heap.size) (hb : ∀ g, g < w.heap.size → g ≠ q → g ≠ q' ∧ w'.heap[g]? = w.heap[g]?) : hasE q' m cells w' v L := by
  obtain ⟨ao, c, h1, h2, h3⟩ := h
  refine ⟨ao, c, h1, h2, fun a ha => ?_⟩
  obtain ⟨g, e1, e2, e3, e4⟩ := h3 a ha
  obtain ⟨f1, f2⟩ := hb g e3 e2
  exact ⟨g, e1, f1, by omega, fun k hk j u hu => (World.cell?_of_block (w := w) (a := ⟨g, k * m + j, none⟩) f2).trans (e4 k hk j u hu)⟩

theorem hasE.below {q m : Nat} {cells : El → List Value} {w w' : World} {v : Value} {L : List El} (h : hasE q m cells w v L) (hB : Below w.heap.size w w') : hasE q m cells w' v L :=
  h.of_blocks hB.size fun g hg hq => ⟨hq, hB.block g hg⟩

theorem take_succ_all {V : ByteArray → Nat} {L : List El} {k : Nat} (h : k < L.length) : (L.take (k + 1)).all (obs V) = ((L.take k).all (obs V) && obs V L[k]) := by
  have e : L.take (k + 1) = L.take k ++ [L[k]] := by rw [List.take_add_one, List.getElem?_eq_getElem h]; rfl
  rw [e, List.all_append]
  simp only [List.all_cons, List.all_nil, Bool.and_true]

set_option maxRecDepth 100000 in
set_option maxHeartbeats 1000000 in
theorem index_dot (p b : Nat) (V : ByteArray → Nat) (L : List El) (q : Nat) (v : Value) (w : World) (hm : ctxIs w b V) (hs : ∀ x ∈ L, x.1.size ≤ maxLen) (hn : L.length ≤ 1024) (hv : hasE q 2 dcells w v L)
    (h0 : w.cell? ⟨p, 0, none⟩ = some (.map (some b))) (h1 : w.cell? ⟨p, 1, none⟩ = some (.slice none 0 0)) :
    Calls Yba.prog 14 #[v, .func (.func 10) #[] #[.pointer (some ⟨p, 0, none⟩)]] w fun e w' => (∃ z : Int, e = .returned (.int .i64 z) ∧ decide (0 ≤ z) = !(L.all (obs V))) ∧ Below w.heap.size w w' := by
  have hp : p < w.heap.size := World.block_lt_of_cell? w _ h0
  obtain ⟨ao, cp, rfl, hv1, hv2⟩ := hv
  go_enter Yba.func14, Yba.ntmps14
  go_wp2
  go_loopw [8] (fun i wr => ∃ k : Nat, k ≤ L.length ∧ i = .int .i64 k ∧ Below w.heap.size w wr ∧ (L.take k).all (obs V) = true) (fun i _ => L.length - (intOf i).toNat)
  case atStart => exact ⟨0, Nat.zero_le _, rfl, Below.refl _ _, by simp⟩
  case round =>
    obtain ⟨k, hk, rfl, hB, hall⟩ := hrel
    have Hall : Hid ((L.take k).all (obs V) = true) := hall
    clear hall
    by_cases hlt : k < L.length
    · obtain ⟨g, rfl, hgq, hgl, hg⟩ : ∃ g, ao = some ⟨g, 0, none⟩ ∧ g ≠ q ∧ g < w.heap.size ∧ ∀ k (h : k < L.length) j u, (dcells L[k])[j]? = some u → w.cell? ⟨g, k * 2 + j, none⟩ = some u := by
        cases ao with
        | none => rw [hv1 rfl] at hlt; simp at hlt
        | some a => obtain ⟨g, e, r⟩ := hv2 a rfl; exact ⟨g, by rw [e], r⟩
      have hmem : L[k] ∈ L := List.getElem_mem _
      obtain ⟨x, hx⟩ : ∃ x, x = L[k] := ⟨_, rfl⟩
      have c0 : wr.cell? ⟨g, k * 2, none⟩ = some (.string x.1) := (hB.cell hgl).trans (hg k hlt 0 _ (by rw [hx]; rfl))
      have c1 : wr.cell? ⟨g, k * 2 + 1, none⟩ = some (.int .u64 x.2.1) := (hB.cell hgl).trans (hg k hlt 1 _ (by rw [hx]; rfl))
      have hxs : x.1.size ≤ maxLen := hs x (by rw [hx]; exact hmem)
      have HX : Hid (x = L[k]) := hx
      clear hx hmem
      have hi : (k : Int) < (L.length : Int) := by omega
      have hi0 : (0 : Int) ≤ (k : Int) := by omega
      have k0 : wr.cell? ⟨p, 0, none⟩ = some (.map (some b)) := (hB.cell hp).trans h0
      have k1 : wr.cell? ⟨p, 1, none⟩ = some (.slice none 0 0) := (hB.cell hp).trans h1
      have hmr : ctxIs wr b V := hm.below hB hm.lt
      by_cases ho : x.2.1 ≤ V x.1
      · have hd : decide (x.2.1 ≤ V x.1) = true := by simp [ho]
        go_wp2_with (go_at_call 10; refine (closure_dot p b V x.1 x.2.1 _ hmr hxs k0 k1).mono ?_; rintro e w2 ⟨rfl, hb2⟩)
        have hx := HX.out
        have hall := Hall.out
        go_roundw
        case rel => exact ⟨k + 1, by omega, by go_num, hB.trans (hb2.mono hB.size), by rw [take_succ_all hlt, hall, ← hx]; simpa [obs] using ho⟩
        case measure => simp [intOf]; omega
      · have hd : decide (x.2.1 ≤ V x.1) = false := by simp [ho]
        go_wp2_with (go_at_call 10; refine (closure_dot p b V x.1 x.2.1 _ hmr hxs k0 k1).mono ?_; rintro e w2 ⟨rfl, hb2⟩)
        go_ret
        refine ⟨⟨_, rfl, ?_⟩, hB.trans (hb2.mono hB.size)⟩
        have hx := HX.out
        have hf : L.all (obs V) = false := by
          cases h : L.all (obs V) with
          | false => rfl
          | true =>
            rw [List.all_eq_true] at h
            have := h x (by rw [hx]; exact List.getElem_mem _)
            simp [obs] at this
            omega
        rw [hf]
        simp
    · have hke : k = L.length := by omega
      have hall := Hall.out
      have hge : ¬ (k : Int) < (L.length : Int) := by omega
      go_wp2
      go_ret
      refine ⟨⟨_, rfl, ?_⟩, hB⟩
      rw [hke, List.take_length] at hall
      rw [hall]
      rfl

set_option maxRecDepth 100000 in
set_option maxHeartbeats 1000000 in
theorem contains_dot (p b : Nat) (V : ByteArray → Nat) (L : List El) (q : Nat) (v : Value) (w : World) (hm : ctxIs w b V) (hs : ∀ x ∈ L, x.1.size ≤ maxLen) (hn : L.length ≤ 1024) (hv : hasE q 2 dcells w v L)
    (h0 : w.cell? ⟨p, 0, none⟩ = some (.map (some b))) (h1 : w.cell? ⟨p, 1, none⟩ = some (.slice none 0 0)) :
    Calls Yba.prog 9 #[v, .func (.func 10) #[] #[.pointer (some ⟨p, 0, none⟩)]] w fun e w' => e = .returned (.bool (!(L.all (obs V)))) ∧ Below w.heap.size w w' := by
  go_enter Yba.func9, Yba.ntmps9
  go_wp2_with (go_at_call 14; refine (index_dot p b V L q v _ hm hs hn hv h0 h1).mono ?_; rintro e w2 ⟨⟨z, rfl, hz⟩, hb⟩)
  go_ret
  exact ⟨by rw [← hz]; rfl, hb⟩

set_option maxRecDepth 100000 in
set_option maxHeartbeats 1000000 in
theorem index_key (p b : Nat) (V : ByteArray → Nat) (L : List El) (q : Nat) (v : Value) (w : World) (hm : ctxIs w b V) (hs : ∀ x ∈ L, x.1.size ≤ maxLen) (hn : L.length ≤ 1024) (hv : hasE q 4 kcells w v L)
    (h0 : w.cell? ⟨p, 0, none⟩ = some (.map (some b))) (h1 : w.cell? ⟨p, 1, none⟩ = some (.slice none 0 0)) :
    Calls Yba.prog 17 #[v, .func (.func 13) #[] #[.pointer (some ⟨p, 0, none⟩)]] w fun e w' => (∃ z : Int, e = .returned (.int .i64 z) ∧ decide (0 ≤ z) = !(L.all (obs V))) ∧ Below w.heap.size w w' := by
  have hp : p < w.heap.size := World.block_lt_of_cell? w _ h0
  obtain ⟨ao, cp, rfl, hv1, hv2⟩ := hv
  go_enter Yba.func17, Yba.ntmps17
  go_wp2
  go_loopw [8] (fun i wr => ∃ k : Nat, k ≤ L.length ∧ i = .int .i64 k ∧ Below w.heap.size w wr ∧ (L.take k).all (obs V) = true) (fun i _ => L.length - (intOf i).toNat)
  case atStart => exact ⟨0, Nat.zero_le _, rfl, Below.refl _ _, by simp⟩
  case round =>
    obtain ⟨k, hk, rfl, hB, hall⟩ := hrel
    have Hall : Hid ((L.take k).all (obs V) = true) := hall
    clear hall
    by_cases hlt : k < L.length
    · obtain ⟨g, rfl, hgq, hgl, hg⟩ : ∃ g, ao = some ⟨g, 0, none⟩ ∧ g ≠ q ∧ g < w.heap.size ∧ ∀ k (h : k < L.length) j u, (kcells L[k])[j]? = some u → w.cell? ⟨g, k * 4 + j, none⟩ = some u := by
        cases ao with
        | none => rw [hv1 rfl] at hlt; simp at hlt
        | some a => obtain ⟨g, e, r⟩ := hv2 a rfl; exact ⟨g, by rw [e], r⟩
      have hmem : L[k] ∈ L := List.getElem_mem _
      obtain ⟨x, hx⟩ : ∃ x, x = L[k] := ⟨_, rfl⟩
      have c0 : wr.cell? ⟨g, k * 4, none⟩ = some (.string x.1) := (hB.cell hgl).trans (hg k hlt 0 _ (by rw [hx]; rfl))
      have c1 : wr.cell? ⟨g, k * 4 + 1, none⟩ = some (.int .u64 x.2.1) := (hB.cell hgl).trans (hg k hlt 1 _ (by rw [hx]; rfl))
      have c2 : wr.cell? ⟨g, k * 4 + 2, none⟩ = some (.string x.2.2) := (hB.cell hgl).trans (hg k hlt 2 _ (by rw [hx]; rfl))
      have c3 : wr.cell? ⟨g, k * 4 + 3, none⟩ = some (.int .u8 1) := (hB.cell hgl).trans (hg k hlt 3 _ rfl)
      have hxs : x.1.size ≤ maxLen := hs x (by rw [hx]; exact hmem)
      have HX : Hid (x = L[k]) := hx
      clear hx hmem
      have hi : (k : Int) < (L.length : Int) := by omega
      have hi0 : (0 : Int) ≤ (k : Int) := by omega
      have k0 : wr.cell? ⟨p, 0, none⟩ = some (.map (some b)) := (hB.cell hp).trans h0
      have k1 : wr.cell? ⟨p, 1, none⟩ = some (.slice none 0 0) := (hB.cell hp).trans h1
      have hmr : ctxIs wr b V := hm.below hB hm.lt
      by_cases ho : x.2.1 ≤ V x.1
      · have hd : decide (x.2.1 ≤ V x.1) = true := by simp [ho]
        go_wp2_with (go_at_call 13; refine (closure_key p b V x.1 x.2.2 x.2.1 _ hmr hxs k0 k1).mono ?_; rintro e w2 ⟨rfl, hb2⟩)
        have hx := HX.out
        have hall := Hall.out
        go_roundw
        case rel => exact ⟨k + 1, by omega, by go_num, hB.trans (hb2.mono hB.size), by rw [take_succ_all hlt, hall, ← hx]; simpa [obs] using ho⟩
        case measure => simp [intOf]; omega
      · have hd : decide (x.2.1 ≤ V x.1) = false := by simp [ho]
        go_wp2_with (go_at_call 13; refine (closure_key p b V x.1 x.2.2 x.2.1 _ hmr hxs k0 k1).mono ?_; rintro e w2 ⟨rfl, hb2⟩)
        go_ret
        refine ⟨⟨_, rfl, ?_⟩, hB.trans (hb2.mono hB.size)⟩
        have hx := HX.out
        have hf : L.all (obs V) = false := by
          cases h : L.all (obs V) with
          | false => rfl
          | true =>
            rw [List.all_eq_true] at h
            have := h x (by rw [hx]; exact List.getElem_mem _)
            simp [obs] at this
            omega
        rw [hf]
        simp
    · have hke : k = L.length := by omega
      have hall := Hall.out
      have hge : ¬ (k : Int) < (L.length : Int) := by omega
      go_wp2
      go_ret
      refine ⟨⟨_, rfl, ?_⟩, hB⟩
      rw [hke, List.take_length] at hall
      rw [hall]
      rfl

set_option maxRecDepth 100000 in
set_option maxHeartbeats 1000000 in
theorem contains_key (p b : Nat) (V : ByteArray → Nat) (L : List El) (q : Nat) (v : Value) (w : World) (hm : ctxIs w b V) (hs : ∀ x ∈ L, x.1.size ≤ maxLen) (hn : L.length ≤ 1024) (hv : hasE q 4 kcells w v L)
    (h0 : w.cell? ⟨p, 0, none⟩ = some (.map (some b))) (h1 : w.cell? ⟨p, 1, none⟩ = some (.slice none 0 0)) :
    Calls Yba.prog 12 #[v, .func (.func 13) #[] #[.pointer (some ⟨p, 0, none⟩)]] w fun e w' => e = .returned (.bool (!(L.all (obs V)))) ∧ Below w.heap.size w w' := by
  go_enter Yba.func12, Yba.ntmps12
  go_wp2_with (go_at_call 17; refine (index_key p b V L q v _ hm hs hn hv h0 h1).mono ?_; rintro e w2 ⟨⟨z, rfl, hz⟩, hb⟩)
  go_ret
  exact ⟨by rw [← hz]; rfl, hb⟩

end Go.Proofs.Ybulkfym
