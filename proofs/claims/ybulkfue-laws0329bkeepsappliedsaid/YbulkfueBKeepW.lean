/-
  LawS0329BKeepsApplied: the walk.
-/
import Derived.Test.YbulkfueBKeepI
import Derived.Test.YbulkfueBSteps
namespace Go.Proofs.Ybulkfue
open Go.RowKit Go.MuLone

theorem Yba.info27 : (Yba.prog.info? 27).map (fun i => (i.zero, i.size, i.bytes)) = some (some (.int .u64 0), 1, 8) := by kernel_rfl
theorem make48 (n : Nat) (hn : n ≤ 1024) (w : World) : (Instr.makeSlice 48 (.int .i64 0) (.int .i64 n)).run Yba.prog w = .ok (.slice (some ⟨w.heap.size, 0, none⟩) 0 n) (w.alloc (.cells (madeCells #[.int .u64 0] (n * 1)) 27)) := by
  obtain ⟨i, hi, hz, hs, hb⟩ := info_parts Yba.info27
  have := run_make (P := Yba.prog) w 48 27 i _ Yba.underlying48 hi hz .i64 .i64 0 n (by omega) (by omega) (by rw [hb]; omega) (by omega)
  rw [hs] at this
  simpa [Value.cells] using this

/-- keys[j] == s. -/
def sameK (kS : Nat → ByteArray) (kE : Nat → Int) (s : ByteArray) (e : Int) (j : Nat) : Bool := ((kS j).toList == s.toList) && (kE j == e)
/-- 'k' behind j rounds. -/
def findK (kS : Nat → ByteArray) (kE : Nat → Int) (s : ByteArray) (e : Int) : Nat → Int
  | 0 => -1
  | j + 1 => if sameK kS kE s e j = true then (j : Int) else findK kS kE s e j
theorem sameK_iff {kS : Nat → ByteArray} {kE : Nat → Int} {s : ByteArray} {e : Int} (hks : ∀ j, (kS j).size ≤ maxLen) (hke : ∀ j, (Lit.int .u64 (kE j)).wf = true) (hs : s.size ≤ maxLen) (he : (Lit.int .u64 e).wf = true) (j : Nat) :
    sameK kS kE s e j = true ↔ klit (kS j) (kE j) = klit s e := by
  constructor
  · intro h
    simp only [sameK, Bool.and_eq_true, ← beq_toListBytes, beq_iff_eq] at h
    rw [byteArray_eq h.1, h.2]
  · intro h
    obtain ⟨h1, h2⟩ := klit_inj (hks j) (hke j) hs he h
    simp [sameK, h1, h2]
theorem findK_none {kS : Nat → ByteArray} {kE : Nat → Int} {s : ByteArray} {e : Int} : ∀ m, (∀ j, j < m → sameK kS kE s e j = false) → findK kS kE s e m = -1
  | 0, _ => rfl
  | m + 1, h => by
    rw [findK, if_neg (by rw [h m (by omega)]; simp)]
    exact findK_none m (fun j hj => h j (by omega))
theorem findK_some {kS : Nat → ByteArray} {kE : Nat → Int} {s : ByteArray} {e : Int} {j0 : Nat} : ∀ m, j0 < m → sameK kS kE s e j0 = true → (∀ j, j < m → sameK kS kE s e j = true → j = j0) → findK kS kE s e m = j0
  | m + 1, hlt, h0, hu => by
    by_cases hm : sameK kS kE s e m = true
    · rw [findK, if_pos hm, hu m (by omega) hm]
    · rw [findK, if_neg hm]
      have : j0 ≠ m := fun h => hm (h ▸ h0)
      exact findK_some m (by omega) h0 (fun j hj => hu j (by omega))
theorem findK_range (kS : Nat → ByteArray) (kE : Nat → Int) (s : ByteArray) (e : Int) : ∀ m, -1 ≤ findK kS kE s e m ∧ findK kS kE s e m < m
  | 0 => by simp [findK]
  | m + 1 => by
    have := findK_range kS kE s e m
    rw [findK]
    split <;> omega

/-- What the walk wants behind the two appends. -/
theorem keep_pushed {w0 wr wa wb wd : World} {n m cnt : Nat} {f : Lit → Option Value} {kS : Nat → ByteArray} {kE : Nat → Int} {vv vm : Nat → Int} {mk : Nat → Nat} {X : Obj} {C7 C8 : Array Value} {t7 t8 : TypeId} {B8 : Nat}
    (h : KInv w0 wr n m m cnt f kS kE vv vm mk) (hnew : ∀ j, j < m → klit (kS j) (kE j) ≠ klit (kS m) (kE m)) (h1 : Below wr.heap.size wr wa) (hg : wa.grownBy wb (some (w0.heap.size + 2))) (hrb : rowsAt wb (w0.heap.size + 2) 29 2 n (m + 1) (cellS kS kE))
    (hg2 : (wb.alloc X).grownBy wd (some (w0.heap.size + 3))) (hrd : rowsAt wd (w0.heap.size + 3) 27 1 n (m + 1) (cellV vv))
    (h7 : wa.heap[wr.heap.size]? = some (.cells C7 t7 (0, 0))) (h8 : wa.heap[B8]? = some (.cells C8 t8 (0, 0))) (hB8 : wr.heap.size < B8) :
    Hid (KInv w0 wd n m (m + 1) cnt f kS kE vv vm mk ∧ wd.heap[wr.heap.size]? = some (.cells C7 t7 (0, 0)) ∧ wd.heap[B8]? = some (.cells C8 t8 (0, 0))) := by
  obtain ⟨hp, hall⟩ := h.push hnew h1 hg hrb ((Below.refl _ _).alloc (Nat.le_refl _) X) hg2 hrd
  have hs := h.size
  have l7 := (Array.getElem?_eq_some_iff.1 h7).1
  have l8 := (Array.getElem?_eq_some_iff.1 h8).1
  exact ⟨hp, (hall _ (by omega) l7).trans h7, (hall _ (by omega) l8).trans h8⟩

theorem upd_keep (vl : Nat → Int) (j0 : Nat) (x : Int) (h : x ≤ vl j0) (i : Nat) : vl i = upd vl j0 (if vl j0 < x then x else vl j0) i := by
  rw [if_neg (by omega)]
  by_cases e : i = j0
  · rw [e, upd_same]
  · rw [upd_other _ _ e]

set_option maxRecDepth 100000 in
set_option maxHeartbeats 4000000 in
theorem keep_walk (b off n c : Nat) (op st ep sq : Nat → Int) (w : World) (hn : n ≤ 1024) (hst : Steps w b off n op st ep sq) :
    Calls Yba.prog 4 #[.slice (some ⟨b, off, none⟩) n c] w fun e w' => e = .returned (.bool true) ∧ Below w.heap.size w w' := by
  have hm1 := make25 n hn
  have hm2 := make48 n hn
  obtain ⟨sS, hS⟩ : ∃ sS : Nat → ByteArray, sS = fun j => siteB (st j) := ⟨_, rfl⟩
  obtain ⟨sE, hE⟩ : ∃ sE : Nat → Int, sE = fun j => ep j % 3 := ⟨_, rfl⟩
  have hss : ∀ j, (sS j).size ≤ maxLen := fun j => by rw [hS]; exact siteB_small _
  have hse : ∀ j, (Lit.int .u64 (sE j)).wf = true := fun j => by rw [hE]; have := hst.b2 j; exact WalkArith.wf_u64 (by show 0 ≤ ep j % 3 ∧ ep j % 3 ≤ _; omega)
  have hsend : ∀ j W, Calls Yba.prog 8 #[.agg #[.int .u8 (op j), .int .u8 (st j), .int .u8 (ep j), .int .u64 (sq j)]] W fun e w' => e = .returned (.agg #[.string (sS j), .int .u64 (sE j)]) ∧ Below W.heap.size W w' := by
    intro j W
    rw [hS, hE]
    exact sender_any (op j) (st j) (ep j) (sq j) W (hst.b1 j).1 (hst.b1 j).2 (hst.b2 j).1
  have HSE : Hid ((∀ j, (sS j).size ≤ maxLen) ∧ (∀ j, (Lit.int .u64 (sE j)).wf = true) ∧ Steps w b off n op st ep sq) := ⟨hss, hse, hst⟩
  clear hS hE hss hse hst
  go_enter Yba.func4, Yba.ntmps4
  go_wp2_with (go_at_call 7; refine (newInbox_any w).mono ?_; rintro e w' ⟨rfl, rfl⟩)
  clear hm1 hm2
  go_loopw [4, 5, 6] (fun kv vv iv wr => ∃ k m : Nat, k ≤ n ∧ m ≤ k ∧ iv = .int .i64 k ∧ kv = .slice (some ⟨w.heap.size + 2, 0, none⟩) m n ∧ vv = .slice (some ⟨w.heap.size + 3, 0, none⟩) m n ∧ ∃ f kS kE vl mk, KInv w wr n m m k f kS kE vl vl mk) (fun _ _ i _ => n - (intOf i).toNat)
  case atStart => exact ⟨0, 0, Nat.zero_le _, Nat.zero_le _, rfl, rfl, rfl, _, sS, sE, fun _ => 0, fun _ => 0, KInv_start w n sS sE _ _ _ _ HSE.out.1 HSE.out.2.1⟩
  case round =>
    obtain ⟨k, m, hk, hmk, rfl, rfl, rfl, f, kS, kE, vl, mk, hI⟩ := hrel
    by_cases hlt : k < n
    · obtain ⟨hss, hse, hst⟩ := HSE.out
      have hkeep : ∀ j v, w.cell? ⟨b, j, none⟩ = some v → wr.cell? ⟨b, j, none⟩ = some v := fun j v h => (hI.below.cell (block_lt_of_cell h)).trans h
      have g0 := hkeep _ _ (hst.c0 k hlt)
      have g1 := hkeep _ _ (hst.c1 k hlt)
      have g2 := hkeep _ _ (hst.c2 k hlt)
      have g3 := hkeep _ _ (hst.c3 k hlt)
      have hk0 : (0 : Int) ≤ (k : Int) := by omega
      have hk1 : (k : Int) < (n : Int) := by omega
      have HI : Hid (KInv w wr n m m k f kS kE vl vl mk) := hI
      clear hss hse hst hkeep hI
      go_wp2_with (go_at_call 8; refine (hsend k _).mono ?_; rintro e w1 ⟨rfl, hb1⟩)
      clear g0 g1 g2 g3 hsend
      obtain ⟨W, hW⟩ : ∃ W, W = w1.alloc (.cells #[.string (sS k), .int .u64 (sE k)] 29) := ⟨_, rfl⟩
      obtain ⟨B8, hB8⟩ : ∃ B8, B8 = w1.heap.size := ⟨_, rfl⟩
      have hz1 : wr.heap.size < w1.heap.size := by have := hb1.size; simp at this; omega
      have hbW : Below wr.heap.size wr W := by
        rw [hW]
        exact (((Below.refl _ _).alloc (Nat.le_refl _) _).trans (hb1.mono (by simp))).alloc (by omega) _
      have hst7 : W.heap[wr.heap.size]? = some (.cells #[.int .u8 (op k), .int .u8 (st k), .int .u8 (ep k), .int .u64 (sq k)] 32 (0, 0)) := by
        rw [hW, Below.heap_alloc _ _ _ hz1, hb1.block _ (by simp)]
        exact heap_alloc_new _ _
      have hst8 : W.heap[B8]? = some (.cells #[.string (sS k), .int .u64 (sE k)] 29 (0, 0)) := by
        rw [hW, hB8]
        exact heap_alloc_new _ _
      have hB8lt : wr.heap.size < B8 := by omega
      rw [← hW, ← hB8]
      clear hW hB8 hb1 hz1 w1
      have c80 : W.cell? ⟨B8, 0, none⟩ = some (.string (sS k)) := cell_of_row _ _ _ _ _ _ hst8
      have c81 : W.cell? ⟨B8, 1, none⟩ = some (.int .u64 (sE k)) := cell_of_row _ _ _ _ _ _ hst8
      have c70 : W.cell? ⟨wr.heap.size, 0, none⟩ = some (.int .u8 (op k)) := cell_of_row _ _ _ _ _ _ hst7
      have c73 : W.cell? ⟨wr.heap.size, 3, none⟩ = some (.int .u64 (sq k)) := cell_of_row _ _ _ _ _ _ hst7
      have HB : Hid (Below wr.heap.size wr W ∧ W.heap[wr.heap.size]? = some (.cells #[.int .u8 (op k), .int .u8 (st k), .int .u8 (ep k), .int .u64 (sq k)] 32 (0, 0)) ∧ W.heap[B8]? = some (.cells #[.string (sS k), .int .u64 (sE k)] 29 (0, 0)) ∧ wr.heap.size < B8) := ⟨hbW, hst7, hst8, hB8lt⟩
      clear hbW hst7 hst8 hB8lt
      obtain ⟨wo, hwo⟩ : ∃ wo : World, wo = wr := ⟨_, rfl⟩
      rw [← hwo] at HI HB c70 c73 ⊢
      clear hwo wr
      go_loopw [9, 10] (fun kv jv wi => ∃ j : Nat, j ≤ m ∧ jv = .int .i64 j ∧ kv = .int .i64 (findK kS kE (sS k) (sE k) j) ∧ ∃ q, wi = W.drewN q) (fun _ j _ => m - (intOf j).toNat)
      case atStart => exact ⟨0, Nat.zero_le _, rfl, rfl, 0, rfl⟩
      case round =>
        obtain ⟨j, hj, rfl, rfl, qd, rfl⟩ := hrel
        by_cases hjm : j < m
        · have hKW := HI.out.of_below HB.out.1
          have r0 : W.cell? ⟨w.heap.size + 2, j * 2, none⟩ = some (.string (kS j)) := by rw [hKW.rowK.cellAt (by omega), cellS_even]
          have r1 : W.cell? ⟨w.heap.size + 2, j * 2 + 1, none⟩ = some (.int .u64 (kE j)) := by rw [hKW.rowK.cellAt (by omega), cellS_odd]
          clear hKW
          have hj0 : (0 : Int) ≤ (j : Int) := by omega
          have hj1 : (j : Int) < (m : Int) := by omega
          cases e1 : ((kS j).toList == (sS k).toList) with
          | false =>
            have HSN : Hid (findK kS kE (sS k) (sE k) (j + 1) = findK kS kE (sS k) (sE k) j) := by
              show _ = _
              rw [findK, if_neg (by simp only [sameK, e1]; simp)]
            go_wp2_with fail
            go_quiet (fail)
            go_wp2_with fail
            go_roundw
            case rel => exact ⟨j + 1, by omega, by go_num, by rw [HSN.out], qd + nq, rfl⟩
            case measure => simp [intOf]; omega
          | true =>
            cases e2 : (kE j == sE k) with
            | false =>
              have HSN : Hid (findK kS kE (sS k) (sE k) (j + 1) = findK kS kE (sS k) (sE k) j) := by
                show _ = _
                rw [findK, if_neg (by simp only [sameK, e2]; simp)]
              go_wp2_with fail
              go_quiet (fail)
              go_wp2_with fail
              go_roundw
              case rel => exact ⟨j + 1, by omega, by go_num, by rw [HSN.out], qd + nq, rfl⟩
              case measure => simp [intOf]; omega
            | true =>
              have HSN : Hid (findK kS kE (sS k) (sE k) (j + 1) = (j : Int)) := by
                show _ = _
                rw [findK, if_pos (by simp only [sameK, e1, e2]; simp)]
              go_wp2_with fail
              go_quiet (fail)
              go_wp2_with fail
              go_roundw
              case rel => exact ⟨j + 1, by omega, by go_num, by rw [HSN.out], qd + nq, rfl⟩
              case measure => simp [intOf]; omega
        · have ejm : j = m := by omega
          subst ejm
          have hopb := HSE.out.2.2.b0 k
          have hsqb := HSE.out.2.2.b3 k
          have HNE : Hid (wo.heap.size ≠ w.heap.size ∧ ∀ i, i < j → wo.heap.size ≠ mk i) := ⟨by have := HI.out.size; omega, fun i hi => by have := (Array.getElem?_eq_some_iff.1 (HI.out.marks i hi).2).1; omega⟩
          by_cases hfd : ∃ j0, j0 < j ∧ sameK kS kE (sS k) (sE k) j0 = true
          · obtain ⟨j0, hj0, hsm⟩ := hfd
            have hkl := (sameK_iff HI.out.ks HI.out.ke (HSE.out.1 k) (HSE.out.2.1 k) j0).1 hsm
            obtain ⟨hks0, hke0⟩ := klit_inj (HI.out.ks j0) (HI.out.ke j0) (HSE.out.1 k) (HSE.out.2.1 k) hkl
            have hfind : findK kS kE (sS k) (sE k) j = (j0 : Int) := findK_some j hj0 hsm (fun i hi hs => HI.out.inj i hi j0 hj0 (((sameK_iff HI.out.ks HI.out.ke (HSE.out.1 k) (HSE.out.2.1 k) i).1 hs).trans hkl.symm))
            rw [hfind]
            clear hfind
            have hbWq : Below wo.heap.size wo (W.drewN qd) := below_drewN HB.out.1 qd
            have hCa := kapplied_step (W := W.drewN qd) (sq k) HI.out hj0 (.inl rfl) (by omega) hbWq
            have hCm := kmark_step (W := W.drewN qd) HI.out hj0 (.inl rfl) (by omega) hbWq
            rw [hks0, hke0] at hCa hCm
            have h00 : (0 : Int) ≤ (j0 : Int) := by omega
            have h01 : (j0 : Int) < (j : Int) := by omega
            clear hsm hkl hks0 hke0 hbWq
            by_cases hop : op k % 2 = 0
            · clear hCm
              go_wp2_with fail
              refine hCa.mono ?_
              rintro e w4 ⟨rfl, f', mk', hI4, hz4, hold4⟩
              have d7 : w4.heap[wo.heap.size]? = some (.cells #[.int .u8 (op k), .int .u8 (st k), .int .u8 (ep k), .int .u64 (sq k)] 32 (0, 0)) := (hold4 _ (Array.getElem?_eq_some_iff.1 HB.out.2.1).1 HNE.out.1 HNE.out.2).trans HB.out.2.1
              have d73 : w4.cell? ⟨wo.heap.size, 3, none⟩ = some (.int .u64 (sq k)) := cell_of_row _ _ _ _ _ _ d7
              have dv : w4.cell? ⟨w.heap.size + 3, j0, none⟩ = some (.int .u64 (vl j0)) := hI4.rowV.cellAt (by omega)
              have fv : w4.frozen? ⟨w.heap.size + 3, j0, none⟩ = false := hI4.rowV.free _
              have HI4 : Hid (KInv w w4 n j j (k + 1) f' kS kE vl (upd vl j0 (if vl j0 < sq k then sq k else vl j0)) mk') := hI4
              clear hI4 hold4 hz4 d7 hCa c80 c81 c70 c73
              by_cases hgt : vl j0 < sq k
              · go_wp2_with fail
                go_quiet (fail)
                go_wp2_with fail
                go_roundw
                case rel => exact ⟨k + 1, j, by omega, by omega, by go_num, rfl, rfl, f', kS, kE, upd vl j0 (sq k), mk', by have := (HI4.out.of_below (below_drewN (Below.refl _ w4) nq)).store j0 (sq k); rw [if_pos (by omega)] at this; exact this⟩
                case measure => simp [intOf]; omega
              · go_wp2_with fail
                go_quiet (fail)
                go_wp2_with fail
                go_roundw
                case rel => exact ⟨k + 1, j, by omega, by omega, by go_num, rfl, rfl, f', kS, kE, vl, mk', (HI4.out.of_below (below_drewN (Below.refl _ w4) nq)).marks_congr (fun i _ => upd_keep vl j0 (sq k) (by omega) i)⟩
                case measure => simp [intOf]; omega
            · clear hCa
              go_wp2_with fail
              refine hCm.mono ?_
              rintro e w4 ⟨q, f', mk', rfl, hI4, hmq, hz4, hold4, hqq⟩
              have dv : w4.cell? ⟨w.heap.size + 3, j0, none⟩ = some (.int .u64 (vl j0)) := hI4.rowV.cellAt (by omega)
              have dq : w4.cell? ⟨q, 2, none⟩ = some (.int .u64 (vl j0)) := by
                have := (hI4.marks j0 hj0).2
                rw [hmq] at this
                exact cell_of_row _ _ _ _ _ _ this
              have HI4 : Hid (KInv w w4 n j j (k + 1) f' kS kE vl vl mk') := hI4
              clear hI4 hold4 hz4 hCm c80 c81 c70 c73 hmq hqq
              go_wp2_with fail
              go_quiet (fail)
              go_wp2_with fail
              go_roundw
              case rel => exact ⟨k + 1, j, by omega, by omega, by go_num, rfl, rfl, f', kS, kE, vl, mk', HI4.out.of_below (below_drewN (Below.refl _ w4) nq)⟩
              case measure => simp [intOf]; omega
          · have hno : ∀ i, i < j → sameK kS kE (sS k) (sE k) i = false := fun i hi => by
              cases hs : sameK kS kE (sS k) (sE k) i with
              | false => rfl
              | true => exact absurd ⟨i, hi, hs⟩ hfd
            rw [findK_none j hno]
            obtain ⟨kS', hkS'⟩ : ∃ kS', kS' = upd kS j (sS k) := ⟨_, rfl⟩
            obtain ⟨kE', hkE'⟩ : ∃ kE', kE' = upd kE j (sE k) := ⟨_, rfl⟩
            obtain ⟨vl', hvl'⟩ : ∃ vl', vl' = upd vl j 0 := ⟨_, rfl⟩
            have hks0 : kS' j = sS k := by rw [hkS', upd_same]
            have hke0 : kE' j = sE k := by rw [hkE', upd_same]
            have hv0 : vl' j = 0 := by rw [hvl', upd_same]
            have hI' : KInv w wo n j j k f kS' kE' vl' vl' mk := HI.out.congr (fun i hi => by rw [hkS', upd_other _ _ (by omega)]) (fun i hi => by rw [hkE', upd_other _ _ (by omega)]) (fun i hi => by rw [hvl', upd_other _ _ (by omega)]) (fun i hi => by rw [hvl', upd_other _ _ (by omega)])
              (fun i => by rw [hkS']; by_cases e : i = j; (rw [e, upd_same]; exact HSE.out.1 k); (rw [upd_other _ _ e]; exact HI.out.ks i)) (fun i => by rw [hkE']; by_cases e : i = j; (rw [e, upd_same]; exact HSE.out.2.1 k); (rw [upd_other _ _ e]; exact HI.out.ke i))
            have hnew : ∀ i, i < j → klit (kS' i) (kE' i) ≠ klit (kS' j) (kE' j) := by
              intro i hi h
              rw [hks0, hke0, hkS', hkE', upd_other _ _ (by omega), upd_other _ _ (by omega)] at h
              have := (sameK_iff HI.out.ks HI.out.ke (HSE.out.1 k) (HSE.out.2.1 k) i).2 h
              rw [hno i hi] at this
              cases this
            have HI' : Hid (KInv w wo n j j k f kS' kE' vl' vl' mk ∧ (∀ i, i < j → klit (kS' i) (kE' i) ≠ klit (kS' j) (kE' j)) ∧ kS' j = sS k ∧ kE' j = sE k ∧ vl' j = 0) := ⟨hI', hnew, hks0, hke0, hv0⟩
            obtain ⟨i29, h29, _, s29, _⟩ := info_parts Yba.info29
            obtain ⟨i27, h27, _, s27, _⟩ := info_parts Yba.info27
            have hbA : Below wo.heap.size wo ((W.drewN qd).alloc (.cells #[.string (sS k), .int .u64 (sE k)] 29)) := (below_drewN HB.out.1 qd).alloc HB.out.1.size _
            have hA := (hI'.of_below hbA).rowK
            have hA0 : ∀ i, i < 2 → ((W.drewN qd).alloc (.cells #[.string (sS k), .int .u64 (sE k)] 29)).cell? ((⟨W.heap.size, 0, none⟩ : Addr).add i) = some (cellS kS' kE' (j * 2 + i)) := by
              intro i hi
              have := new_cells (W.drewN qd) #[.string (sS k), .int .u64 (sE k)] 29 i
              rw [show (W.drewN qd).heap.size = W.heap.size from rfl] at this
              rw [this]
              match i, hi with
              | 0, _ => rw [Nat.add_zero, cellS_even, hks0]; rfl
              | 1, _ => rw [cellS_odd, hke0]; rfl
            have hA1 : ∀ i, i < 2 → (cellS kS' kE' (j * 2 + i)).oneCell' = true := by
              intro i hi
              match i, hi with
              | 0, _ => rw [Nat.add_zero, cellS_even]; rfl
              | 1, _ => rw [cellS_odd]; rfl
            have hB0 : ∀ wb : World, ∀ i, i < 1 → (wb.alloc (.cells #[.int .u64 0] 27)).cell? ((⟨wb.heap.size, 0, none⟩ : Addr).add i) = some (cellV vl' (j * 1 + i)) := by
              intro wb i hi
              rw [new_cells]
              match i, hi with
              | 0, _ => simp [cellV, hv0]
            have hB1 : ∀ i, i < 1 → (cellV vl' (j * 1 + i)).oneCell' = true := fun i _ => rfl
            have HA : Hid (Below wo.heap.size wo ((W.drewN qd).alloc (.cells #[.string (sS k), .int .u64 (sE k)] 29)) ∧ rowsAt ((W.drewN qd).alloc (.cells #[.string (sS k), .int .u64 (sE k)] 29)) (w.heap.size + 2) 29 2 n j (cellS kS' kE') ∧
                (∀ i, i < 2 → ((W.drewN qd).alloc (.cells #[.string (sS k), .int .u64 (sE k)] 29)).cell? ((⟨W.heap.size, 0, none⟩ : Addr).add i) = some (cellS kS' kE' (j * 2 + i))) ∧ (∀ i, i < 2 → (cellS kS' kE' (j * 2 + i)).oneCell' = true)) := ⟨hbA, hA, hA0, hA1⟩
            have HV : Hid ((∀ wb : World, ∀ i, i < 1 → (wb.alloc (.cells #[.int .u64 0] 27)).cell? ((⟨wb.heap.size, 0, none⟩ : Addr).add i) = some (cellV vl' (j * 1 + i))) ∧ (∀ i, i < 1 → (cellV vl' (j * 1 + i)).oneCell' = true)) := ⟨hB0, hB1⟩
            have hjn : j < n := by omega
            clear hbA hA hA0 hA1 hB0 hB1 hI' hnew hks0 hke0 hv0 hkS' hkE' hvl' hno hfd
            have HBA : Hid (((W.drewN qd).alloc (.cells #[.string (sS k), .int .u64 (sE k)] 29)).heap[wo.heap.size]? = some (.cells #[.int .u8 (op k), .int .u8 (st k), .int .u8 (ep k), .int .u64 (sq k)] 32 (0, 0)) ∧ ((W.drewN qd).alloc (.cells #[.string (sS k), .int .u64 (sE k)] 29)).heap[B8]? = some (.cells #[.string (sS k), .int .u64 (sE k)] 29 (0, 0))) :=
              ⟨(Below.heap_alloc _ _ _ (Array.getElem?_eq_some_iff.1 HB.out.2.1).1).trans HB.out.2.1, (Below.heap_alloc _ _ _ (Array.getElem?_eq_some_iff.1 HB.out.2.2.1).1).trans HB.out.2.2.1⟩
            have h00 : (0 : Int) ≤ (j : Int) := by omega
            by_cases hop : op k % 2 = 0
            · go_wp2_with (first
                | (at_builtin; refine wpList_append_rows _ rfl (.tmp 49) (.tmp 51) 25 rfl (w.heap.size + 2) 29 2 n j (cellS kS' kE') i29 HA.out.2.1 Yba.underlying25 h29 s29 hjn ⟨W.heap.size, 0, none⟩ 1 rfl rfl HA.out.2.2.1 HA.out.2.2.2 ?_; intro wb hrb hgb hzb; clear hzb)
                | (at_builtin; refine wpList_append_rows _ rfl (.tmp 53) (.tmp 54) 48 rfl (w.heap.size + 3) 27 1 n j (cellV vl') i27 ((HI'.out.1.mid HA.out.1 hgb).of_block (Below.heap_alloc _ _ _ (HI'.out.1.mid HA.out.1 hgb).lt)) Yba.underlying48 h27 s27 hjn ⟨wb.heap.size, 0, none⟩ 1 rfl rfl (HV.out.1 wb) HV.out.2 ?_; intro wd hrd hgd hzd; clear hzd; have HP := keep_pushed HI'.out.1 HI'.out.2.1 HA.out.1 hgb hrb hgd hrd HBA.out.1 HBA.out.2 HB.out.2.2.2; have d70 : wd.cell? ⟨wo.heap.size, 0, none⟩ = some (.int .u8 (op k)) := cell_of_row _ _ _ _ _ _ HP.out.2.1; have d73 : wd.cell? ⟨wo.heap.size, 3, none⟩ = some (.int .u64 (sq k)) := cell_of_row _ _ _ _ _ _ HP.out.2.1; have d80 : wd.cell? ⟨B8, 0, none⟩ = some (.string (sS k)) := cell_of_row _ _ _ _ _ _ HP.out.2.2; have d81 : wd.cell? ⟨B8, 1, none⟩ = some (.int .u64 (sE k)) := cell_of_row _ _ _ _ _ _ HP.out.2.2; clear hrb hgb hrd hgd))
              have hCa := kapplied_step (W := wd) (sq k) HP.out.1 (k0 := j) (by omega) (.inr ⟨rfl, rfl, HI'.out.2.2.2.2⟩) (by omega) (Below.refl _ _)
              rw [HI'.out.2.2.1, HI'.out.2.2.2.1] at hCa
              refine hCa.mono ?_
              rintro e w4 ⟨rfl, f', mk', hI4, hz4, hold4⟩
              have hwd7 : w4.heap[wo.heap.size]? = some (.cells #[.int .u8 (op k), .int .u8 (st k), .int .u8 (ep k), .int .u64 (sq k)] 32 (0, 0)) := (hold4 _ (Array.getElem?_eq_some_iff.1 HP.out.2.1).1 HNE.out.1 HNE.out.2).trans HP.out.2.1
              have e73 : w4.cell? ⟨wo.heap.size, 3, none⟩ = some (.int .u64 (sq k)) := cell_of_row _ _ _ _ _ _ hwd7
              have dv : w4.cell? ⟨w.heap.size + 3, j, none⟩ = some (.int .u64 0) := by
                have := hI4.rowV.cellAt (j := j) (by omega)
                rw [this]
                simp [cellV, HI'.out.2.2.2.2]
              have fv : w4.frozen? ⟨w.heap.size + 3, j, none⟩ = false := hI4.rowV.free _
              rw [HI'.out.2.2.2.2] at hI4
              have HI4 : Hid (KInv w w4 n (j + 1) (j + 1) (k + 1) f' kS' kE' vl' (upd vl' j (if 0 < sq k then sq k else 0)) mk') := hI4
              clear hI4 hold4 hz4 hwd7 hCa c80 c81 c70 c73 d70 d73 d80 d81
              by_cases hgt : 0 < sq k
              · go_wp2_with fail
                go_quiet (fail)
                go_wp2_with fail
                go_roundw
                case rel => exact ⟨k + 1, j + 1, by omega, by omega, by go_num, rfl, rfl, f', kS', kE', upd vl' j (sq k), mk', by have := (HI4.out.of_below (below_drewN (Below.refl _ w4) nq)).store j (sq k); rw [if_pos (by omega)] at this; exact this⟩
                case measure => simp [intOf]; omega
              · go_wp2_with fail
                go_quiet (fail)
                go_wp2_with fail
                go_roundw
                case rel => exact ⟨k + 1, j + 1, by omega, by omega, by go_num, rfl, rfl, f', kS', kE', vl', mk', (HI4.out.of_below (below_drewN (Below.refl _ w4) nq)).marks_congr (fun i _ => by have := upd_keep vl' j (sq k) (by rw [HI'.out.2.2.2.2]; omega) i; rw [HI'.out.2.2.2.2] at this; exact this)⟩
                case measure => simp [intOf]; omega
            · go_wp2_with (first
                | (at_builtin; refine wpList_append_rows _ rfl (.tmp 49) (.tmp 51) 25 rfl (w.heap.size + 2) 29 2 n j (cellS kS' kE') i29 HA.out.2.1 Yba.underlying25 h29 s29 hjn ⟨W.heap.size, 0, none⟩ 1 rfl rfl HA.out.2.2.1 HA.out.2.2.2 ?_; intro wb hrb hgb hzb; clear hzb)
                | (at_builtin; refine wpList_append_rows _ rfl (.tmp 53) (.tmp 54) 48 rfl (w.heap.size + 3) 27 1 n j (cellV vl') i27 ((HI'.out.1.mid HA.out.1 hgb).of_block (Below.heap_alloc _ _ _ (HI'.out.1.mid HA.out.1 hgb).lt)) Yba.underlying48 h27 s27 hjn ⟨wb.heap.size, 0, none⟩ 1 rfl rfl (HV.out.1 wb) HV.out.2 ?_; intro wd hrd hgd hzd; clear hzd; have HP := keep_pushed HI'.out.1 HI'.out.2.1 HA.out.1 hgb hrb hgd hrd HBA.out.1 HBA.out.2 HB.out.2.2.2; have d70 : wd.cell? ⟨wo.heap.size, 0, none⟩ = some (.int .u8 (op k)) := cell_of_row _ _ _ _ _ _ HP.out.2.1; have d73 : wd.cell? ⟨wo.heap.size, 3, none⟩ = some (.int .u64 (sq k)) := cell_of_row _ _ _ _ _ _ HP.out.2.1; have d80 : wd.cell? ⟨B8, 0, none⟩ = some (.string (sS k)) := cell_of_row _ _ _ _ _ _ HP.out.2.2; have d81 : wd.cell? ⟨B8, 1, none⟩ = some (.int .u64 (sE k)) := cell_of_row _ _ _ _ _ _ HP.out.2.2; clear hrb hgb hrd hgd))
              have hCm := kmark_step (W := wd) HP.out.1 (k0 := j) (by omega) (.inr ⟨rfl, rfl, HI'.out.2.2.2.2⟩) (by omega) (Below.refl _ _)
              rw [HI'.out.2.2.1, HI'.out.2.2.2.1] at hCm
              refine hCm.mono ?_
              rintro e w4 ⟨q, f', mk', rfl, hI4, hmq, hz4, hold4, hqq⟩
              have dv : w4.cell? ⟨w.heap.size + 3, j, none⟩ = some (.int .u64 0) := by
                have := hI4.rowV.cellAt (j := j) (by omega)
                rw [this]
                simp [cellV, HI'.out.2.2.2.2]
              have dq : w4.cell? ⟨q, 2, none⟩ = some (.int .u64 0) := by
                have := (hI4.marks j (by omega)).2
                rw [hmq, HI'.out.2.2.2.2] at this
                exact cell_of_row _ _ _ _ _ _ this
              have HI4 : Hid (KInv w w4 n (j + 1) (j + 1) (k + 1) f' kS' kE' vl' vl' mk') := hI4
              clear hI4 hold4 hz4 hCm c80 c81 c70 c73 d70 d73 d80 d81 hmq hqq
              go_wp2_with fail
              go_quiet (fail)
              go_wp2_with fail
              go_roundw
              case rel => exact ⟨k + 1, j + 1, by omega, by omega, by go_num, rfl, rfl, f', kS', kE', vl', mk', HI4.out.of_below (below_drewN (Below.refl _ w4) nq)⟩
              case measure => simp [intOf]; omega
    · have ekn : k = n := by omega
      subst ekn
      have cI : wr.cell? ⟨w.heap.size + 1, 2, none⟩ = some (.map (some w.heap.size)) := cell_of_row _ _ _ _ _ _ hI.inbox
      have hlen := hI.map.len Yba.underlying42 3
      have hbel := hI.below
      clear hI
      go_wp2
      go_ret
      exact ⟨rfl, hbel⟩
end Go.Proofs.Ybulkfue
