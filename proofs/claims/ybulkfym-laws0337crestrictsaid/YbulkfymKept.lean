/-
  The callees of LawS0337CRestrict, fourth part: observedIn.
-/
import Derived.Test.YbulkfymIdx
namespace Go.Proofs.Ybulkfym
open Go.RowKit
open Go.Maps (Keyed)

theorem Yba.info37 : (Yba.prog.info? 37).map (fun i => (i.zero, i.size, i.bytes)) = some (some (.agg #[.string ByteArray.empty, .int .u64 0]), 2, 24) := by kernel_rfl
theorem Yba.info45 : (Yba.prog.info? 45).map (fun i => (i.zero, i.size, i.bytes)) = some (some (.agg #[.string ByteArray.empty, .int .u64 0, .string ByteArray.empty, .int .u8 0]), 4, 48) := by kernel_rfl

/-- Of the first k elements those that are observed. -/
def kept (V : ByteArray → Nat) (L : List El) (k : Nat) : List El := (L.take k).filter (obs V)
theorem kept_hit {V : ByteArray → Nat} {L : List El} {k : Nat} (h : k < L.length) (ho : obs V L[k] = true) : kept V L (k + 1) = kept V L k ++ [L[k]] := by
  have e : L.take (k + 1) = L.take k ++ [L[k]] := by rw [List.take_add_one, List.getElem?_eq_getElem h]; rfl
  rw [kept, e, List.filter_append, List.filter_cons_of_pos ho]
  rfl
theorem kept_miss {V : ByteArray → Nat} {L : List El} {k : Nat} (h : k < L.length) (ho : obs V L[k] = false) : kept V L (k + 1) = kept V L k := by
  have e : L.take (k + 1) = L.take k ++ [L[k]] := by rw [List.take_add_one, List.getElem?_eq_getElem h]; rfl
  rw [kept, e, List.filter_append, List.filter_cons_of_neg (by simp [ho])]
  simp [kept]
theorem kept_le (V : ByteArray → Nat) (L : List El) (k : Nat) : (kept V L k).length ≤ k := by
  have := List.length_filter_le (obs V) (L.take k)
  rw [List.length_take] at this
  unfold kept
  omega
theorem kept_all (V : ByteArray → Nat) (L : List El) : kept V L L.length = L.filter (obs V) := by rw [kept, List.take_length]

theorem flat_get {cells : El → List Value} {m : Nat} (hc : ∀ x, (cells x).length = m) (L : List El) : ∀ k (h : k < L.length) j u, (cells L[k])[j]? = some u → (L.flatMap cells)[k * m + j]? = some u := by
  induction L with
  | nil => intro k h; simp at h
  | cons a L ih =>
    intro k h j u hu
    rw [List.flatMap_cons]
    cases k with
    | zero =>
      have hj : j < (cells a).length := (List.getElem?_eq_some_iff.1 hu).1
      rw [List.getElem?_append_left (by omega)]
      simpa using hu
    | succ k =>
      rw [List.getElem?_append_right (by rw [hc, Nat.succ_mul]; omega), hc]
      have e : (k + 1) * m + j - m = k * m + j := by rw [Nat.succ_mul]; omega
      rw [e]
      exact ih k (by simpa using h) j u (by simpa using hu)

theorem add_head (g j : Nat) : (⟨g, 0, none⟩ : Addr).add j = ⟨g, j, none⟩ := by
  simp only [Addr.add]
  by_cases h : j = 0
  · subst h; rfl
  · simp [h]

theorem new_dcells (w : World) (x : El) (t : TypeId) : ∀ j u, (dcells x)[j]? = some u → (w.alloc (.cells #[.string x.1, .int .u64 x.2.1] t)).cell? ((⟨w.heap.size, 0, none⟩ : Addr).add j) = some u := by
  intro j u hu
  rw [add_head]
  match j, hu with
  | 0, hu => simp [dcells] at hu; subst hu; simp
  | 1, hu => simp [dcells] at hu; subst hu; simp
  | j + 2, hu => simp [dcells] at hu
theorem new_kcells (w : World) (x : El) (t : TypeId) : ∀ j u, (kcells x)[j]? = some u → (w.alloc (.cells #[.string x.1, .int .u64 x.2.1, .string x.2.2, .int .u8 1] t)).cell? ((⟨w.heap.size, 0, none⟩ : Addr).add j) = some u := by
  intro j u hu
  rw [add_head]
  match j, hu with
  | 0, hu => simp [kcells] at hu; subst hu; simp
  | 1, hu => simp [kcells] at hu; subst hu; simp
  | 2, hu => simp [kcells] at hu; subst hu; simp
  | 3, hu => simp [kcells] at hu; subst hu; simp
  | j + 4, hu => simp [kcells] at hu
theorem dcells_one (x : El) : ∀ u ∈ dcells x, u.oneCell' = true := by
  intro u hu
  simp [dcells] at hu
  rcases hu with rfl | rfl <;> rfl
theorem kcells_one (x : El) : ∀ u ∈ kcells x, u.oneCell' = true := by
  intro u hu
  simp [kcells] at hu
  rcases hu with rfl | rfl | rfl | rfl <;> rfl

theorem grown_of_below {w w' : World} (h : Below w.heap.size w w') (row : Option Nat) : w.grownBy w' row := ⟨h.os, h.tape, h.output, h.size, fun k hk _ => h.block k hk⟩
theorem owns_below {w w' : World} {base e m n : Nat} {v : Value} {xs : List Value} (h : w.ownsRow base e m v n xs) (hb : Below w.heap.size w w') : w'.ownsRow base e m v n xs :=
  h.kept (grown_of_below hb none) (by cases v.ownBlock <;> simp)

/-- What an append leaves of the round's relation. -/
theorem rel_keep {cells : El → List Value} {V : ByteArray → Nat} {L : List El} {k B e m : Nat} {WA wr w2 w3 : World} {kv v' : Value} {o : Obj} (hlt : k < L.length) (ho : obs V L[k] = true)
    (hB : Below B WA wr) (hBs : B ≤ wr.heap.size) (hb : Below wr.heap.size wr w2) (hown : wr.ownsRow B e m kv (kept V L k).length ((kept V L k).flatMap cells)) (hg : (w2.alloc o).grownBy w3 kv.ownBlock)
    (hown' : w3.ownsRow B e m v' ((kept V L k).length + 1) ((kept V L k).flatMap cells ++ cells L[k])) :
    Below B WA w3 ∧ w3.ownsRow B e m v' (kept V L (k + 1)).length ((kept V L (k + 1)).flatMap cells) := by
  refine ⟨?_, ?_⟩
  · have := hb.size
    exact ((hB.trans (hb.mono hBs)).alloc (by omega) o).grown hg (by simp; omega) fun j hj => (hown.lt j hj).1
  · rw [kept_hit hlt ho, List.length_append, List.flatMap_append]
    simpa using hown'

/-- What the call owns it has. -/
theorem has_of_owns {cells : El → List Value} {m : Nat} (hc : ∀ x, (cells x).length = m) {w : World} {base e q : Nat} {v : Value} {L : List El} (h : w.ownsRow base e m v L.length (L.flatMap cells)) (hq : q < base) : hasE q m cells w v L := by
  have hcell := fun g hg => h.cells (g := g) hg
  have hlt := h.lt
  obtain ⟨h1, h2⟩ := h
  rcases h2 with ⟨rfl, hn⟩ | ⟨g, cap, cur, rfl, hg, hh, _⟩
  · exact ⟨none, 0, by rw [hn], fun _ => List.length_eq_zero_iff.1 hn, by simp⟩
  · refine ⟨some ⟨g, 0, none⟩, cap, rfl, by simp, fun a ha => ⟨g, by simpa using ha.symm, by omega, (hlt g rfl).2, fun k hk j u hu => ?_⟩⟩
    have := hcell g rfl (k * m + j) u (flat_get hc L k hk j u hu)
    rw [add_head] at this
    exact this

set_option maxRecDepth 100000 in
set_option maxHeartbeats 2000000 in
theorem observedIn_dot (b : Nat) (V : ByteArray → Nat) (L : List El) (q : Nat) (v : Value) (w : World) (hm : ctxIs w b V) (hs : ∀ x ∈ L, x.1.size ≤ maxLen) (hn : L.length ≤ 1024) (hv : hasE q 2 dcells w v L) (hq : q < w.heap.size) :
    Calls Yba.prog 7 #[v, .agg #[.map (some b), .slice none 0 0]] w fun e w' => (∃ v', e = .returned v' ∧ hasE q 2 dcells w' v' (L.filter (obs V))) ∧ Below w.heap.size w w' := by
  have hmf : ∀ (fn : Fn) (first cap : Array Value) (w : World), (Instr.makeFunc fn first cap).run Yba.prog w = .ok (.func fn first cap) w := fun _ _ _ _ => rfl
  obtain ⟨i0, hi, hz0, hz1, hz2⟩ := info_parts Yba.info37
  obtain ⟨WA, hWA⟩ : ∃ WA : World, WA = w.alloc (.cells #[.map (some b), .slice none 0 0] 33) := ⟨_, rfl⟩
  have hBA : Below w.heap.size w WA := by rw [hWA]; exact (Below.refl _ _).alloc (Nat.le_refl _) _
  have hsA : WA.heap.size = w.heap.size + 1 := by rw [hWA]; simp
  have hmA : ctxIs WA b V := hm.below hBA hm.lt
  have hvA : hasE q 2 dcells WA v L := hv.below hBA
  have p0 : WA.cell? ⟨w.heap.size, 0, none⟩ = some (.map (some b)) := by rw [hWA]; simp
  have p1 : WA.cell? ⟨w.heap.size, 1, none⟩ = some (.slice none 0 0) := by rw [hWA]; simp
  have hc := contains_dot w.heap.size b V L q v WA hmA hs hn hvA p0 p1
  rw [hWA] at hc
  have HWA : Hid (WA = w.alloc (.cells #[.map (some b), .slice none 0 0] 33)) := hWA
  clear hWA
  by_cases hL : L = []
  · subst hL
    obtain ⟨ao, cp, rfl, hv1, hv2⟩ := hv
    clear hv1 hv2 hvA hc
    go_enter Yba.func7, Yba.ntmps7
    go_wp2
    refine wp_loop_rounds 1 ?_
    rw [rounds_succ]
    go_wp2
    go_ret
    exact ⟨⟨_, rfl, none, 0, rfl, fun _ => rfl, by simp⟩, (Below.refl _ _).alloc (Nat.le_refl _) _⟩
  · have hlen : (0 : Int) < (L.length : Int) := by
      have := List.length_pos_iff.2 hL
      omega
    have hlen' : 0 < L.length := by omega
    obtain ⟨ao, cp, rfl, hv1, hv2⟩ := hv
    cases hA : L.all (obs V) with
    | true =>
      rw [hA] at hc
      go_enter Yba.func7, Yba.ntmps7
      go_wp2_with (go_at_call 9; refine hc.mono ?_; rintro e w2 ⟨rfl, hb2⟩)
      go_ret
      have hf : L.filter (obs V) = L := by rw [List.filter_eq_self]; simpa using hA
      have hB2 : Below w.heap.size w w2 := Below.trans ((Below.refl _ _).alloc (Nat.le_refl _) _) (hb2.mono (by simp))
      refine ⟨⟨_, rfl, ?_⟩, hB2⟩
      rw [hf]
      exact hasE.below ⟨ao, cp, rfl, hv1, hv2⟩ hB2
    | false =>
      rw [hA] at hc
      go_enter Yba.func7, Yba.ntmps7
      go_wp2_with (go_at_call 9; refine hc.mono ?_; rintro e w2 ⟨rfl, hb2⟩)
      have hA2 : Below WA.heap.size WA w2 := by rw [HWA.out]; exact hb2
      clear hb2 hc hA
      rw [hsA] at hA2
      go_loopw [5, 20] (fun kv i wr => ∃ k : Nat, k ≤ L.length ∧ i = .int .i64 k ∧ Below (w.heap.size + 1) WA wr ∧ wr.ownsRow (w.heap.size + 1) 37 2 kv (kept V L k).length ((kept V L k).flatMap dcells)) (fun _ i _ => L.length - (intOf i).toNat)
      case atStart => exact ⟨0, Nat.zero_le _, rfl, hA2, World.ownsRow_nil _ _ _ _⟩
      case round =>
        obtain ⟨k, hk, rfl, hB, hown⟩ := hrel
        have hBs := hB.size
        rw [hsA] at hBs
        by_cases hlt : k < L.length
        · obtain ⟨g, rfl, hgq, hgl, hg⟩ : ∃ g, ao = some ⟨g, 0, none⟩ ∧ g ≠ q ∧ g < w.heap.size ∧ ∀ k (h : k < L.length) j u, (dcells L[k])[j]? = some u → w.cell? ⟨g, k * 2 + j, none⟩ = some u := by
            cases ao with
            | none => rw [hv1 rfl] at hlt; simp at hlt
            | some a => obtain ⟨g, e, r⟩ := hv2 a rfl; exact ⟨g, by rw [e], r⟩
          have hmem : L[k] ∈ L := List.getElem_mem _
          obtain ⟨x, hx⟩ : ∃ x, x = L[k] := ⟨_, rfl⟩
          have hBw : Below w.heap.size w wr := hBA.trans (hB.mono (by omega))
          have c0 : wr.cell? ⟨g, k * 2, none⟩ = some (.string x.1) := (hBw.cell hgl).trans (hg k hlt 0 _ (by rw [hx]; rfl))
          have c1 : wr.cell? ⟨g, k * 2 + 1, none⟩ = some (.int .u64 x.2.1) := (hBw.cell hgl).trans (hg k hlt 1 _ (by rw [hx]; rfl))
          have hxs : x.1.size ≤ maxLen := hs x (by rw [hx]; exact hmem)
          have HX : Hid (x = L[k]) := hx
          clear hx hmem
          have hi1 : (k : Int) < (L.length : Int) := by omega
          have hi0 : (0 : Int) ≤ (k : Int) := by omega
          have a0 : ∀ o, (wr.alloc o).cell? ⟨w.heap.size, 0, none⟩ = some (.map (some b)) := fun o => (((hB.alloc (by omega) o)).cell (by show w.heap.size < _; omega)).trans p0
          have a1 : ∀ o, (wr.alloc o).cell? ⟨w.heap.size, 1, none⟩ = some (.slice none 0 0) := fun o => (((hB.alloc (by omega) o)).cell (by show w.heap.size < _; omega)).trans p1
          have hmr : ctxIs wr b V := hm.below hBw hm.lt
          have hat := method_at_dot
          conv at hat in nameOf _ _ => whnf
          by_cases ho : x.2.1 ≤ V x.1
          · have hd : decide (x.2.1 ≤ V x.1) = true := by simp [ho]
            go_wp2
            go_region_with (first
              | (go_at_call 39; refine (at_dot _ _ _).mono ?_; rintro e w1 ⟨rfl, hb⟩
                 have hb1 : Below wr.heap.size wr w1 := Below.trans ((Below.refl _ _).alloc (Nat.le_refl _) _).drew (hb.mono (by simp))
                 have k0 : w1.cell? ⟨w.heap.size, 0, none⟩ = some (.map (some b)) := (hb1.cell (by show w.heap.size < _; omega)).trans ((hB.cell (by show w.heap.size < _; omega)).trans p0)
                 have k1 : w1.cell? ⟨w.heap.size, 1, none⟩ = some (.slice none 0 0) := (hb1.cell (by show w.heap.size < _; omega)).trans ((hB.cell (by show w.heap.size < _; omega)).trans p1)
                 have hm1 : ctxIs w1 b V := hmr.below hb1 hmr.lt)
              | (go_at_call 11; refine (observed_any b V x.1 x.2.1 _ hm1 hxs).mono ?_; rintro e w2 ⟨rfl, hb2⟩))
            all_goals
              have hb3 : Below wr.heap.size wr w2 := hb1.trans (hb2.mono hb1.size)
              have hws := hb1.size
              have hbs : wr.heap.size + 1 ≤ w1.heap.size := by simpa using hb.size
              have e0 : w2.cell? ⟨wr.heap.size, 0, none⟩ = some (.string x.1) := (hb2.cell (by show wr.heap.size < _; omega)).trans ((hb.cell (by simp)).trans (by simp))
              have e1 : w2.cell? ⟨wr.heap.size, 1, none⟩ = some (.int .u64 x.2.1) := (hb2.cell (by show wr.heap.size < _; omega)).trans ((hb.cell (by simp)).trans (by simp))
              have hown2 := owns_below hown hb3
              have hsz := hb3.size
              have hkl := kept_le V L k
              clear hb hb1 hb2 hm1 k0 k1 a0 a1 c0 c1 hmr hat hv1 hv2 hg hvA
              go_wp2_with (at_builtin; refine wpList_append_own _ rfl (.tmp 29) (.tmp 31) 31 rfl (w.heap.size + 1) 37 i0 (.agg #[.string ByteArray.empty, .int .u64 0]) 2 24 Yba.underlying31 hi hz0 hz1 hz2 rfl (by decide) _ _ _ rfl (hown2.alloc _) ⟨w2.heap.size, 0, none⟩ 1 1 (dcells x) rfl rfl (new_dcells _ _ _) (dcells_one _) ?c3 ?c4 ?c5 ?_)
              case c3 => unfold maxLen; omega
              case c4 => omega
              case c5 => simp; omega
              intro v' w3 hown3 hg3 hnn
              have hx := HX.out
              have R := rel_keep (V := V) hlt (by rw [← hx]; simpa [obs] using ho) hB hBs hb3 hown hg3 (by rw [← hx]; exact hown3)
              clear hx hown3 hg3 hnn hown2 hown hb3
              go_wp2
              go_roundw
              case rel => exact ⟨k + 1, by omega, by go_num, R.1, R.2⟩
              case measure => simp [intOf]; omega
          · have hd : decide (x.2.1 ≤ V x.1) = false := by simp [ho]
            go_wp2
            go_region_with (first
              | (go_at_call 39; refine (at_dot _ _ _).mono ?_; rintro e w1 ⟨rfl, hb⟩
                 have hb1 : Below wr.heap.size wr w1 := Below.trans ((Below.refl _ _).alloc (Nat.le_refl _) _).drew (hb.mono (by simp))
                 have k0 : w1.cell? ⟨w.heap.size, 0, none⟩ = some (.map (some b)) := (hb1.cell (by show w.heap.size < _; omega)).trans ((hB.cell (by show w.heap.size < _; omega)).trans p0)
                 have k1 : w1.cell? ⟨w.heap.size, 1, none⟩ = some (.slice none 0 0) := (hb1.cell (by show w.heap.size < _; omega)).trans ((hB.cell (by show w.heap.size < _; omega)).trans p1)
                 have hm1 : ctxIs w1 b V := hmr.below hb1 hmr.lt)
              | (go_at_call 11; refine (observed_any b V x.1 x.2.1 _ hm1 hxs).mono ?_; rintro e w2 ⟨rfl, hb2⟩))
            all_goals
              have hb3 : Below wr.heap.size wr w2 := hb1.trans (hb2.mono hb1.size)
              have hown2 := owns_below hown hb3
              clear hb hb1 hb2 hm1 k0 k1 a0 a1 c0 c1 hmr hat hv1 hv2 hg hvA
              go_wp2
              have hx := HX.out
              go_roundw
              case rel => exact ⟨k + 1, by omega, by go_num, hB.trans (hb3.mono hBs), by rw [kept_miss hlt (by rw [← hx]; simpa [obs] using ho)]; exact hown2⟩
              case measure => simp [intOf]; omega
        · have hke : k = L.length := by omega
          have hge : ¬ (k : Int) < (L.length : Int) := by omega
          go_wp2
          go_ret
          refine ⟨⟨_, rfl, ?_⟩, hBA.trans (hB.mono (by omega))⟩
          rw [← kept_all, ← hke]
          exact has_of_owns (cells := dcells) (m := 2) (fun _ => rfl) hown (by omega)

set_option maxRecDepth 100000 in
set_option maxHeartbeats 2000000 in
theorem observedIn_key (b : Nat) (V : ByteArray → Nat) (L : List El) (q : Nat) (v : Value) (w : World) (hm : ctxIs w b V) (hs : ∀ x ∈ L, x.1.size ≤ maxLen) (hn : L.length ≤ 1024) (hv : hasE q 4 kcells w v L) (hq : q < w.heap.size) :
    Calls Yba.prog 8 #[v, .agg #[.map (some b), .slice none 0 0]] w fun e w' => (∃ v', e = .returned v' ∧ hasE q 4 kcells w' v' (L.filter (obs V))) ∧ Below w.heap.size w w' := by
  have hmf : ∀ (fn : Fn) (first cap : Array Value) (w : World), (Instr.makeFunc fn first cap).run Yba.prog w = .ok (.func fn first cap) w := fun _ _ _ _ => rfl
  obtain ⟨i0, hi, hz0, hz1, hz2⟩ := info_parts Yba.info45
  obtain ⟨WA, hWA⟩ : ∃ WA : World, WA = w.alloc (.cells #[.map (some b), .slice none 0 0] 33) := ⟨_, rfl⟩
  have hBA : Below w.heap.size w WA := by rw [hWA]; exact (Below.refl _ _).alloc (Nat.le_refl _) _
  have hsA : WA.heap.size = w.heap.size + 1 := by rw [hWA]; simp
  have hmA : ctxIs WA b V := hm.below hBA hm.lt
  have hvA : hasE q 4 kcells WA v L := hv.below hBA
  have p0 : WA.cell? ⟨w.heap.size, 0, none⟩ = some (.map (some b)) := by rw [hWA]; simp
  have p1 : WA.cell? ⟨w.heap.size, 1, none⟩ = some (.slice none 0 0) := by rw [hWA]; simp
  have hc := contains_key w.heap.size b V L q v WA hmA hs hn hvA p0 p1
  rw [hWA] at hc
  have HWA : Hid (WA = w.alloc (.cells #[.map (some b), .slice none 0 0] 33)) := hWA
  clear hWA
  by_cases hL : L = []
  · subst hL
    obtain ⟨ao, cp, rfl, hv1, hv2⟩ := hv
    clear hv1 hv2 hvA hc
    go_enter Yba.func8, Yba.ntmps8
    go_wp2
    refine wp_loop_rounds 1 ?_
    rw [rounds_succ]
    go_wp2
    go_ret
    exact ⟨⟨_, rfl, none, 0, rfl, fun _ => rfl, by simp⟩, (Below.refl _ _).alloc (Nat.le_refl _) _⟩
  · have hlen : (0 : Int) < (L.length : Int) := by
      have := List.length_pos_iff.2 hL
      omega
    have hlen' : 0 < L.length := by omega
    obtain ⟨ao, cp, rfl, hv1, hv2⟩ := hv
    cases hA : L.all (obs V) with
    | true =>
      rw [hA] at hc
      go_enter Yba.func8, Yba.ntmps8
      go_wp2_with (go_at_call 12; refine hc.mono ?_; rintro e w2 ⟨rfl, hb2⟩)
      go_ret
      have hf : L.filter (obs V) = L := by rw [List.filter_eq_self]; simpa using hA
      have hB2 : Below w.heap.size w w2 := Below.trans ((Below.refl _ _).alloc (Nat.le_refl _) _) (hb2.mono (by simp))
      refine ⟨⟨_, rfl, ?_⟩, hB2⟩
      rw [hf]
      exact hasE.below ⟨ao, cp, rfl, hv1, hv2⟩ hB2
    | false =>
      rw [hA] at hc
      go_enter Yba.func8, Yba.ntmps8
      go_wp2_with (go_at_call 12; refine hc.mono ?_; rintro e w2 ⟨rfl, hb2⟩)
      have hA2 : Below WA.heap.size WA w2 := by rw [HWA.out]; exact hb2
      clear hb2 hc hA
      rw [hsA] at hA2
      go_loopw [5, 20] (fun kv i wr => ∃ k : Nat, k ≤ L.length ∧ i = .int .i64 k ∧ Below (w.heap.size + 1) WA wr ∧ wr.ownsRow (w.heap.size + 1) 45 4 kv (kept V L k).length ((kept V L k).flatMap kcells)) (fun _ i _ => L.length - (intOf i).toNat)
      case atStart => exact ⟨0, Nat.zero_le _, rfl, hA2, World.ownsRow_nil _ _ _ _⟩
      case round =>
        obtain ⟨k, hk, rfl, hB, hown⟩ := hrel
        have hBs := hB.size
        rw [hsA] at hBs
        by_cases hlt : k < L.length
        · obtain ⟨g, rfl, hgq, hgl, hg⟩ : ∃ g, ao = some ⟨g, 0, none⟩ ∧ g ≠ q ∧ g < w.heap.size ∧ ∀ k (h : k < L.length) j u, (kcells L[k])[j]? = some u → w.cell? ⟨g, k * 4 + j, none⟩ = some u := by
            cases ao with
            | none => rw [hv1 rfl] at hlt; simp at hlt
            | some a => obtain ⟨g, e, r⟩ := hv2 a rfl; exact ⟨g, by rw [e], r⟩
          have hmem : L[k] ∈ L := List.getElem_mem _
          obtain ⟨x, hx⟩ : ∃ x, x = L[k] := ⟨_, rfl⟩
          have hBw : Below w.heap.size w wr := hBA.trans (hB.mono (by omega))
          have c0 : wr.cell? ⟨g, k * 4, none⟩ = some (.string x.1) := (hBw.cell hgl).trans (hg k hlt 0 _ (by rw [hx]; rfl))
          have c1 : wr.cell? ⟨g, k * 4 + 1, none⟩ = some (.int .u64 x.2.1) := (hBw.cell hgl).trans (hg k hlt 1 _ (by rw [hx]; rfl))
          have c2 : wr.cell? ⟨g, k * 4 + 2, none⟩ = some (.string x.2.2) := (hBw.cell hgl).trans (hg k hlt 2 _ (by rw [hx]; rfl))
          have c3 : wr.cell? ⟨g, k * 4 + 3, none⟩ = some (.int .u8 1) := (hBw.cell hgl).trans (hg k hlt 3 _ rfl)
          have hxs : x.1.size ≤ maxLen := hs x (by rw [hx]; exact hmem)
          have HX : Hid (x = L[k]) := hx
          clear hx hmem
          have hi1 : (k : Int) < (L.length : Int) := by omega
          have hi0 : (0 : Int) ≤ (k : Int) := by omega
          have a0 : ∀ o, (wr.alloc o).cell? ⟨w.heap.size, 0, none⟩ = some (.map (some b)) := fun o => (((hB.alloc (by omega) o)).cell (by show w.heap.size < _; omega)).trans p0
          have a1 : ∀ o, (wr.alloc o).cell? ⟨w.heap.size, 1, none⟩ = some (.slice none 0 0) := fun o => (((hB.alloc (by omega) o)).cell (by show w.heap.size < _; omega)).trans p1
          have hmr : ctxIs wr b V := hm.below hBw hm.lt
          have hat := method_at_key
          conv at hat in nameOf _ _ => whnf
          by_cases ho : x.2.1 ≤ V x.1
          · have hd : decide (x.2.1 ≤ V x.1) = true := by simp [ho]
            go_wp2
            go_region_with (first
              | (go_at_call 41; refine (at_key _ _ _ _).mono ?_; rintro e w1 ⟨rfl, hb⟩
                 have hb1 : Below wr.heap.size wr w1 := Below.trans ((Below.refl _ _).alloc (Nat.le_refl _) _).drew (hb.mono (by simp))
                 have k0 : w1.cell? ⟨w.heap.size, 0, none⟩ = some (.map (some b)) := (hb1.cell (by show w.heap.size < _; omega)).trans ((hB.cell (by show w.heap.size < _; omega)).trans p0)
                 have k1 : w1.cell? ⟨w.heap.size, 1, none⟩ = some (.slice none 0 0) := (hb1.cell (by show w.heap.size < _; omega)).trans ((hB.cell (by show w.heap.size < _; omega)).trans p1)
                 have hm1 : ctxIs w1 b V := hmr.below hb1 hmr.lt)
              | (go_at_call 11; refine (observed_any b V x.1 x.2.1 _ hm1 hxs).mono ?_; rintro e w2 ⟨rfl, hb2⟩))
            all_goals
              have hb3 : Below wr.heap.size wr w2 := hb1.trans (hb2.mono hb1.size)
              have hws := hb1.size
              have hbs : wr.heap.size + 1 ≤ w1.heap.size := by simpa using hb.size
              have e0 : w2.cell? ⟨wr.heap.size, 0, none⟩ = some (.string x.1) := (hb2.cell (by show wr.heap.size < _; omega)).trans ((hb.cell (by simp)).trans (by simp))
              have e1 : w2.cell? ⟨wr.heap.size, 1, none⟩ = some (.int .u64 x.2.1) := (hb2.cell (by show wr.heap.size < _; omega)).trans ((hb.cell (by simp)).trans (by simp))
              have e2 : w2.cell? ⟨wr.heap.size, 2, none⟩ = some (.string x.2.2) := (hb2.cell (by show wr.heap.size < _; omega)).trans ((hb.cell (by simp)).trans (by simp))
              have e3 : w2.cell? ⟨wr.heap.size, 3, none⟩ = some (.int .u8 1) := (hb2.cell (by show wr.heap.size < _; omega)).trans ((hb.cell (by simp)).trans (by simp))
              have hown2 := owns_below hown hb3
              have hsz := hb3.size
              have hkl := kept_le V L k
              clear hb hb1 hb2 hm1 k0 k1 a0 a1 c0 c1 c2 c3 hmr hat hv1 hv2 hg hvA
              go_wp2_with (at_builtin; refine wpList_append_own _ rfl (.tmp 29) (.tmp 31) 38 rfl (w.heap.size + 1) 45 i0 (.agg #[.string ByteArray.empty, .int .u64 0, .string ByteArray.empty, .int .u8 0]) 4 48 Yba.underlying38 hi hz0 hz1 hz2 rfl (by decide) _ _ _ rfl (hown2.alloc _) ⟨w2.heap.size, 0, none⟩ 1 1 (kcells x) rfl rfl (new_kcells _ _ _) (kcells_one _) ?c3 ?c4 ?c5 ?_)
              case c3 => unfold maxLen; omega
              case c4 => omega
              case c5 => simp; omega
              intro v' w3 hown3 hg3 hnn
              have hx := HX.out
              have R := rel_keep (V := V) hlt (by rw [← hx]; simpa [obs] using ho) hB hBs hb3 hown hg3 (by rw [← hx]; exact hown3)
              clear hx hown3 hg3 hnn hown2 hown hb3
              go_wp2
              go_roundw
              case rel => exact ⟨k + 1, by omega, by go_num, R.1, R.2⟩
              case measure => simp [intOf]; omega
          · have hd : decide (x.2.1 ≤ V x.1) = false := by simp [ho]
            go_wp2
            go_region_with (first
              | (go_at_call 41; refine (at_key _ _ _ _).mono ?_; rintro e w1 ⟨rfl, hb⟩
                 have hb1 : Below wr.heap.size wr w1 := Below.trans ((Below.refl _ _).alloc (Nat.le_refl _) _).drew (hb.mono (by simp))
                 have k0 : w1.cell? ⟨w.heap.size, 0, none⟩ = some (.map (some b)) := (hb1.cell (by show w.heap.size < _; omega)).trans ((hB.cell (by show w.heap.size < _; omega)).trans p0)
                 have k1 : w1.cell? ⟨w.heap.size, 1, none⟩ = some (.slice none 0 0) := (hb1.cell (by show w.heap.size < _; omega)).trans ((hB.cell (by show w.heap.size < _; omega)).trans p1)
                 have hm1 : ctxIs w1 b V := hmr.below hb1 hmr.lt)
              | (go_at_call 11; refine (observed_any b V x.1 x.2.1 _ hm1 hxs).mono ?_; rintro e w2 ⟨rfl, hb2⟩))
            all_goals
              have hb3 : Below wr.heap.size wr w2 := hb1.trans (hb2.mono hb1.size)
              have hown2 := owns_below hown hb3
              clear hb hb1 hb2 hm1 k0 k1 a0 a1 c0 c1 c2 c3 hmr hat hv1 hv2 hg hvA
              go_wp2
              have hx := HX.out
              go_roundw
              case rel => exact ⟨k + 1, by omega, by go_num, hB.trans (hb3.mono hBs), by rw [kept_miss hlt (by rw [← hx]; simpa [obs] using ho)]; exact hown2⟩
              case measure => simp [intOf]; omega
        · have hke : k = L.length := by omega
          have hge : ¬ (k : Int) < (L.length : Int) := by omega
          go_wp2
          go_ret
          refine ⟨⟨_, rfl, ?_⟩, hBA.trans (hB.mono (by omega))⟩
          rw [← kept_all, ← hke]
          exact has_of_owns (cells := kcells) (m := 4) (fun _ => rfl) hown (by omega)

end Go.Proofs.Ybulkfym
