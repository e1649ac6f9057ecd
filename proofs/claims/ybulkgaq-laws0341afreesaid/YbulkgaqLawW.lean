/-
  LawS0341AFree: the walk.
-/
import Derived.Test.YbulkgaqStart
import Derived.BigQuiet
import Derived.Deep.QuietTactic
import Derived.Deep.DeepCutAuto
namespace Go.Proofs.Ybulkgaq
open Go.RowKit
open Go.Maps (Keyed)

attribute [local go_sem] store_nilFunc

theorem below_drewN {B : Nat} {a w : World} (h : Below B a w) (n : Nat) : Below B a (w.drewN n) := h.trans ⟨rfl, rfl, rfl, Nat.le_refl _, fun _ _ => rfl⟩
theorem tbound (x k : Nat) (hk : k < 8) : -1 ≤ wrap64 ((x : Int) / 2 % ((k : Int) + 1) - 1) ∧ wrap64 ((x : Int) / 2 % ((k : Int) + 1) - 1) < k := by
  have h1 := Int.emod_nonneg ((x : Int) / 2) (by omega : (k : Int) + 1 ≠ 0)
  have h2 := Int.emod_lt_of_pos ((x : Int) / 2) (by omega : 0 < (k : Int) + 1)
  have e : wrap64 ((x : Int) / 2 % ((k : Int) + 1) - 1) = (x : Int) / 2 % ((k : Int) + 1) - 1 := by
    simp only [wrap64]
    omega
  rw [e]
  omega

set_option maxRecDepth 100000 in
set_option maxHeartbeats 8000000 in
theorem law_short (a0 : Option Addr) (n0 c0 b0 o0 : Nat) (X0 : Nat → Nat) (a1 : Option Addr) (n1 c1 b1 o1 : Nat) (X1 : Nat → Nat) (a2 : Option Addr) (n2 c2 b2 o2 : Nat) (X2 : Nat → Nat) (nt : Nat) (a4 : Option Addr) (n4 c4 b4 o4 : Nat) (F : Nat → Bool) (kp ka : Nat) (w : World)
    (hn0 : n0 ≤ 1024) (hn1 : n1 ≤ 1024) (hn2 : n2 ≤ 1024) (hn4 : n4 ≤ 1024) (hnt : nt ≤ 255) (hkp : kp ≤ 255) (hka : ka ≤ 255) (h0 : BytesIn w a0 n0 b0 o0 X0) (h1 : BytesIn w a1 n1 b1 o1 X1) (h2 : BytesIn w a2 n2 b2 o2 X2) (h4 : BoolsIn w a4 n4 b4 o4 F) :
    Calls Yba.prog 3 #[.slice a0 n0 c0, .slice a1 n1 c1, .slice a2 n2 c2, .int .u8 nt, .slice a4 n4 c4, .int .u8 kp, .int .u8 ka] w fun e w' => e = .returned (.bool true) ∧ Below w.heap.size w w' := by
  have H0 : Hid (BytesIn w a0 n0 b0 o0 X0) := h0
  have H1 : Hid (BytesIn w a1 n1 b1 o1 X1) := h1
  have H2 : Hid (BytesIn w a2 n2 b2 o2 X2) := h2
  have H4 : Hid (BoolsIn w a4 n4 b4 o4 F) := h4
  clear h0 h1 h2 h4
  have e8 : Int.tmod (nt : Int) 8 = ((nt % 8 : Nat) : Int) := by
    rw [Int.tmod_eq_emod_of_nonneg (by omega)]; omega
  obtain ⟨n, hn⟩ : ∃ n, n = nt % 8 := ⟨_, rfl⟩
  have hn8 : n < 8 := by omega
  rw [← hn] at e8
  clear hn
  have hnew := newBlocks_any w
  unfold bcells at hnew
  have hmk := make26 n (by omega)
  obtain ⟨W1, hW1⟩ : ∃ W1 : World, W1 = ((((w.alloc (.cells #[.int .u64 0, .map (some (w.heap.size + 1)), .slice none 0 0, .slice none 0 0, .nilFunc, .int .i64 0, .slice none 0 0, .slice none 0 0, .slice none 0 0] 31)).alloc (.map #[] 0)).alloc (.cells #[.int .u64 0, .map (some (w.heap.size + 1)), .slice (some ⟨w.heap.size + 3, 0, none⟩) n n, .slice none 0 0, .nilFunc, .int .i64 0, .slice none 0 0, .slice none 0 0, .slice none 0 0] 31)).alloc
    (.cells (madeCells #[.int .u64 0, .bool false, .bool false, .bool false, .bool false, .slice none 0 0, .int .i64 0] (n * 7)) 34)) := ⟨_, rfl⟩
  have HW : Hid (W1 = ((((w.alloc (.cells #[.int .u64 0, .map (some (w.heap.size + 1)), .slice none 0 0, .slice none 0 0, .nilFunc, .int .i64 0, .slice none 0 0, .slice none 0 0, .slice none 0 0] 31)).alloc (.map #[] 0)).alloc (.cells #[.int .u64 0, .map (some (w.heap.size + 1)), .slice (some ⟨w.heap.size + 3, 0, none⟩) n n, .slice none 0 0, .nilFunc, .int .i64 0, .slice none 0 0, .slice none 0 0, .slice none 0 0] 31)).alloc
    (.cells (madeCells #[.int .u64 0, .bool false, .bool false, .bool false, .bool false, .slice none 0 0, .int .i64 0] (n * 7)) 34))) := hW1
  have hI0 : Inv0 w.heap.size n n4 w F 0 (fun _ => false) (fun _ => 0) W1 := by
    rw [hW1]
    refine ⟨⟨by simp, by simp, fun _ _ => rfl⟩, (blockIs_newAt rfl (by simp)).alloc _, ?_, ?_, (((((Below.refl _ _).alloc (Nat.le_refl _) _).alloc (by simp) _).alloc (by simp; omega) _).alloc (by simp; omega) _), by simp⟩
    · have := mapSt_made (w.alloc (.cells #[.int .u64 0, .map (some (w.heap.size + 1)), .slice none 0 0, .slice none 0 0, .nilFunc, .int .i64 0, .slice none 0 0, .slice none 0 0, .slice none 0 0] 31)) (fun _ => false) (fun _ => 0)
      refine mapSt.of_block (w := ((w.alloc (.cells #[.int .u64 0, .map (some (w.heap.size + 1)), .slice none 0 0, .slice none 0 0, .nilFunc, .int .i64 0, .slice none 0 0, .slice none 0 0, .slice none 0 0] 31)).alloc (.map #[] 0))) (by simpa using this) ?_
      exact (heap_alloc_old _ _ (by simp)).trans (heap_alloc_old _ _ (by simp))
    · have := made_row (((w.alloc (.cells #[.int .u64 0, .map (some (w.heap.size + 1)), .slice none 0 0, .slice none 0 0, .nilFunc, .int .i64 0, .slice none 0 0, .slice none 0 0, .slice none 0 0] 31)).alloc (.map #[] 0)).alloc (.cells #[.int .u64 0, .map (some (w.heap.size + 1)), .slice (some ⟨w.heap.size + 3, 0, none⟩) n n, .slice none 0 0, .nilFunc, .int .i64 0, .slice none 0 0, .slice none 0 0, .slice none 0 0] 31)) n
      simpa using this
  clear hW1
  go_enter Yba.func3, Yba.ntmps3
  go_wp2_with (go_at_call 4; refine hnew.mono ?_; rintro e w' ⟨rfl, rfl⟩)
  rw [← HW.out]
  go_loopw [17] (fun i wr => ∃ (k : Nat) (fr : Nat → Bool) (tk : Nat → Int), k ≤ n ∧ i = .int .i64 k ∧ Inv0 w.heap.size n n4 w F k fr tk wr) (fun i _ => n - (intOf i).toNat)
  case atStart => exact ⟨0, _, _, Nat.zero_le _, rfl, hI0⟩
  case round =>
    obtain ⟨k, fr, tk, hkn, rfl, hI⟩ := hrel
    clear hI0
    by_cases hlt : k < n
    · as_aux_lemma =>
      have hkI : (k : Int) < (n : Int) := by omega
      have hk0 : (0 : Int) ≤ (k : Int) := by omega
      obtain ⟨t1, t2, t3, t4, t5⟩ := hI.taker
      have s2 : wr.cell? ⟨w.heap.size + 2, 2, none⟩ = some (.slice (some ⟨w.heap.size + 3, 0, none⟩) n n) := hI.bs.cellAt 2
      have s6 : wr.cell? ⟨w.heap.size + 3, k * 7 + 6, none⟩ = some (.int .i64 (tk k)) := (hI.tn.cellAt (by omega)).trans (by rw [(tcell_at fr tk k).2.2.2.2.2.2])
      have sf : ∀ j, wr.frozen? ⟨w.heap.size + 3, j, none⟩ = false := hI.tn.free
      have u2 : (wr.setCell ⟨w.heap.size + 3, k * 7 + 6, none⟩ (.int .i64 (-1))).cell? ⟨w.heap.size + 2, 2, none⟩ = some (.slice (some ⟨w.heap.size + 3, 0, none⟩) n n) := t1.cellAt 2
      have u3 : (wr.setCell ⟨w.heap.size + 3, k * 7 + 6, none⟩ (.int .i64 (-1))).cell? ⟨w.heap.size + 3, k * 7 + 2, none⟩ = some (.bool (fr k)) := (t3.cellAt (by omega)).trans (by rw [(tcell_at fr (upd tk k (-1)) k).2.2.1])
      have uf : ∀ j, (wr.setCell ⟨w.heap.size + 3, k * 7 + 6, none⟩ (.int .i64 (-1))).frozen? ⟨w.heap.size + 3, j, none⟩ = false := t3.free
      by_cases h4 : k < n4
      · obtain rfl : a4 = some ⟨b4, o4, none⟩ := H4.out.at_ (by omega)
        have hbl := H4.out.lt (by omega)
        have q4 : (wr.setCell ⟨w.heap.size + 3, k * 7 + 6, none⟩ (.int .i64 (-1))).cell? ⟨b4, o4 + k, none⟩ = some (.bool (F k)) := (t4.cell hbl).trans (H4.out.c0 k h4)
        have h4I : (k : Int) < (n4 : Int) := by omega
        have HS : Hid (Inv0 w.heap.size n n4 w F (k + 1) (upd fr k (F k)) (upd tk k (-1)) ((wr.setCell ⟨w.heap.size + 3, k * 7 + 6, none⟩ (.int .i64 (-1))).setCell ⟨w.heap.size + 3, k * 7 + 2, none⟩ (.bool (F k))).drew) := hI.set h4
        clear hI t1 t2 t3 t4 t5
        go_wp2
        go_region
        all_goals go_wp2
        all_goals
          go_roundw
          case rel => exact ⟨k + 1, _, _, by omega, by go_num, HS.out⟩
          case measure => simp [intOf]; omega
      · have h4I : ¬ (k : Int) < (n4 : Int) := by omega
        have HS := hI.skip (by omega : n4 ≤ k)
        clear hI t1 t2 t3 t4 t5
        go_wp2
        go_roundw
        case rel => exact ⟨k + 1, _, _, by omega, by go_num, HS⟩
        case measure => simp [intOf]; omega
    · as_aux_lemma =>
      obtain rfl : k = n := by omega
      have hge : ¬ (k : Int) < (k : Int) := by omega
      obtain ⟨wA, hwA⟩ : ∃ wA : World, wA = wr := ⟨_, rfl⟩
      subst hwA
      have hsA := hI.size
      have HI : Hid (Inv0 w.heap.size k n4 w F k fr tk wA) := hI
      clear hI hlt hkn hnew hmk HW
      obtain ⟨m1, hm1⟩ : ∃ m1, m1 = if n1 < n0 then n1 else n0 := ⟨_, rfl⟩
      obtain ⟨m, hm⟩ : ∃ m, m = if n2 < m1 then n2 else m1 := ⟨_, rfl⟩
      have HM1 : Hid (m1 = if n1 < n0 then n1 else n0) := hm1
      have HM : Hid (m = if n2 < m1 then n2 else m1) := hm
      have hmb : m ≤ n0 ∧ m ≤ n1 ∧ m ≤ n2 := by
        rw [hm, hm1]
        repeat' split
        all_goals omega
      clear hm hm1
      obtain ⟨W2, hW2⟩ : ∃ W2 : World, W2 = (wA.alloc (.cells #[.bool false, .bool false, .bool false, .bool false, .bool false, .bool false, .bool false, .bool false, .bool false, .bool false, .bool false, .bool false, .bool false, .bool false, .bool false, .bool false] 35)).alloc (.cells #[.bool false, .int .i64 0, .bool false, .int .i64 0, .bool false, .int .i64 0, .bool false, .int .i64 0, .bool false, .int .i64 0, .bool false, .int .i64 0, .bool false, .int .i64 0, .bool false, .int .i64 0, .bool false, .int .i64 0, .bool false, .int .i64 0, .bool false, .int .i64 0, .bool false, .int .i64 0, .bool false, .int .i64 0, .bool false, .int .i64 0, .bool false, .int .i64 0, .bool false, .int .i64 0] 38) := ⟨_, rfl⟩
      have HW2 : Hid (W2 = (wA.alloc (.cells #[.bool false, .bool false, .bool false, .bool false, .bool false, .bool false, .bool false, .bool false, .bool false, .bool false, .bool false, .bool false, .bool false, .bool false, .bool false, .bool false] 35)).alloc (.cells #[.bool false, .int .i64 0, .bool false, .int .i64 0, .bool false, .int .i64 0, .bool false, .int .i64 0, .bool false, .int .i64 0, .bool false, .int .i64 0, .bool false, .int .i64 0, .bool false, .int .i64 0, .bool false, .int .i64 0, .bool false, .int .i64 0, .bool false, .int .i64 0, .bool false, .int .i64 0, .bool false, .int .i64 0, .bool false, .int .i64 0, .bool false, .int .i64 0, .bool false, .int .i64 0] 38)) := hW2
      have hIs : Inv w.heap.size 0 k w (fun _ => false) (fun _ => false) (fun _ => 0) fr tk W2 := by rw [hW2]; exact inv_start HI.out
      have HTen : Hid (Ten n4 F k fr tk) := HI.out.ten
      clear hW2 HI
      go_upto_if 90 with (fail)
      rw [← HW2.out]
      go_cut [20] (fun s wc => s = .int .i64 m1 ∧ W2 = wc)
      case first => as_aux_lemma =>
        by_cases hc : n1 < n0
        · have hcI : (n1 : Int) < (n0 : Int) := by omega
          go_wp2
          go_meet
          case rel => exact ⟨by rw [HM1.out, if_pos hc], rfl⟩
        · have hcI : ¬ (n1 : Int) < (n0 : Int) := by omega
          go_wp2
          go_meet
          case rel => exact ⟨by rw [HM1.out, if_neg hc], rfl⟩
      case rest => as_aux_lemma =>
        obtain ⟨rfl, rfl⟩ := hcut
        go_upto_if 96 with (fail)
        go_cut [20] (fun s wc => s = .int .i64 m ∧ W2 = wc)
        case first => as_aux_lemma =>
          by_cases hc : n2 < m1
          · have hcI : (n2 : Int) < (m1 : Int) := by omega
            go_wp2
            go_meet
            case rel => exact ⟨by rw [HM.out, if_pos hc], rfl⟩
          · have hcI : ¬ (n2 : Int) < (m1 : Int) := by omega
            go_wp2
            go_meet
            case rel => exact ⟨by rw [HM.out, if_neg hc], rfl⟩
        case rest => as_aux_lemma =>
          obtain ⟨rfl, rfl⟩ := hcut
          clear HM HM1 HW2
          go_wp2
          go_loopw [21] (fun i wr => ∃ (q : Nat) (H Sh : Nat → Bool) (S : Nat → Int), q ≤ m ∧ i = .int .i64 q ∧ Inv w.heap.size q k w H Sh S fr tk wr) (fun i _ => m - (intOf i).toNat)
          case atStart => exact ⟨0, _, _, _, Nat.zero_le _, rfl, hIs⟩
          case round =>
            obtain ⟨q, H, Sh, S, hqm, rfl, hI⟩ := hrel
            clear hIs
            by_cases hlt : q < m
            · as_aux_lemma =>
              obtain rfl : a0 = some ⟨b0, o0, none⟩ := H0.out.at_ (by omega)
              obtain rfl : a1 = some ⟨b1, o1, none⟩ := H1.out.at_ (by omega)
              obtain rfl : a2 = some ⟨b2, o2, none⟩ := H2.out.at_ (by omega)
              have x0 : wr.cell? ⟨b0, o0 + q, none⟩ = some (.int .u8 (X0 q)) := (hI.below.cell (H0.out.lt (by omega))).trans (H0.out.c0 q (by omega))
              have x1 : wr.cell? ⟨b1, o1 + q, none⟩ = some (.int .u8 (X1 q)) := (hI.below.cell (H1.out.lt (by omega))).trans (H1.out.c0 q (by omega))
              have x2 : wr.cell? ⟨b2, o2 + q, none⟩ = some (.int .u8 (X2 q)) := (hI.below.cell (H2.out.lt (by omega))).trans (H2.out.c0 q (by omega))
              have hbl2 := H2.out.lt (by omega)
              have x2' : ∀ o, (wr.alloc o).cell? ⟨b2, o2 + q, none⟩ = some (.int .u8 (X2 q)) := fun o => (((Below.refl _ wr).alloc (Nat.le_refl _) o).cell (by have := hI.size; show b2 < _; omega)).trans x2
              have r0 := H0.out.r0 q
              have r1 := H1.out.r0 q
              have r2 := H2.out.r0 q
              have e0 : Int.tmod (X0 q : Int) 4 = ((X0 q % 4 : Nat) : Int) := by
                rw [Int.tmod_eq_emod_of_nonneg (by omega)]; omega
              have e1 : Int.tmod (X1 q : Int) 4 = ((X1 q % 4 : Nat) : Int) := by
                rw [Int.tmod_eq_emod_of_nonneg (by omega)]; omega
              obtain ⟨p, hp⟩ : ∃ p, p = X0 q % 4 := ⟨_, rfl⟩
              obtain ⟨a, ha⟩ : ∃ a, a = X1 q % 4 := ⟨_, rfl⟩
              have hp4 : p < 4 := by omega
              have ha4 : a < 4 := by omega
              rw [← hp] at e0
              rw [← ha] at e1
              clear hp ha
              have hpI : (p : Int) < 4 := by omega
              have haI : (a : Int) < 4 := by omega
              have hp0 : (0 : Int) ≤ (p : Int) := by omega
              have ha0 : (0 : Int) ≤ (a : Int) := by omega
              obtain ⟨j, hj⟩ : ∃ j, j = p * 4 + a := ⟨_, rfl⟩
              have hjI : (p : Int) * 4 + (a : Int) = (j : Int) := by omega
              have hj16n : j < 16 := by omega
              have hj16 : (j : Int) < 16 := by omega
              have hj0 : (0 : Int) ≤ (j : Int) := by omega
              have hstep := fun h t => hI.step (by omega) hp4 ha4 h t
              rw [← hj] at hstep
              have hqI : (q : Int) < (m : Int) := by omega
              have hq0I : (q : Int) < (n1 : Int) := by omega
              have hq1I : (q : Int) < (n2 : Int) := by omega
              have hq00 : (0 : Int) ≤ (q : Int) := by omega
              obtain ⟨f, hf⟩ : ∃ f : Bool → Int → World, ∀ h t, (Instr.mapUpdate 25 (.map (some (w.heap.size + 1))) (.agg #[.int .u64 p, .int .u64 a]) (.agg #[.bool h, .int .i64 t])).run Yba.prog
                  ((((wr.setCell ⟨w.heap.size + 4, j, none⟩ (.bool true)).setCell ⟨w.heap.size + 5, j * 2, none⟩ (.bool h)).setCell ⟨w.heap.size + 5, j * 2 + 1, none⟩ (.int .i64 t)).alloc (.cells #[.bool h, .int .i64 t] 37)).drew = .ok () (f h t) ∧
                (-1 ≤ t ∧ t < k → Inv w.heap.size (q + 1) k w (upd H j true) (upd Sh j h) (upd S j t) fr tk (f h t)) :=
                ⟨fun h t => Classical.choose (hstep h t), fun h t => Classical.choose_spec (hstep h t)⟩
              have hf1 := fun h t => (hf h t).1
              have HF2 : Hid (∀ (h : Bool) (t : Int), -1 ≤ t ∧ t < k → Inv w.heap.size (q + 1) k w (upd H j true) (upd Sh j h) (upd S j t) fr tk (f h t)) := fun h t => (hf h t).2
              have s1 : wr.cell? ⟨w.heap.size + 2, 1, none⟩ = some (.map (some (w.heap.size + 1))) := hI.bs.cellAt 1
              have s4 : wr.cell? ⟨w.heap.size + 4, j, none⟩ = some (.bool (H j)) := hI.hv.cellAt (by omega)
              have s4f : wr.frozen? ⟨w.heap.size + 4, j, none⟩ = false := hI.hv.free _
              have s5 : wr.cell? ⟨w.heap.size + 5, j * 2, none⟩ = some (.bool (Sh j)) := (hI.ws.cellAt (by omega)).trans (by rw [(wcell_at Sh S j).1])
              have s5' : wr.cell? ⟨w.heap.size + 5, j * 2 + 1, none⟩ = some (.int .i64 (S j)) := (hI.ws.cellAt (by omega)).trans (by rw [(wcell_at Sh S j).2])
              have s5f : ∀ j, wr.frozen? ⟨w.heap.size + 5, j, none⟩ = false := hI.ws.free
              have hsz := hI.size
              have k1 : rowsAt (wr.setCell ⟨w.heap.size + 4, j, none⟩ (.bool true)) (w.heap.size + 5) 38 1 32 32 (wcell Sh S) := hI.ws.of_block (Below.heap_setCell _ _ _ _ (by show w.heap.size + 5 ≠ w.heap.size + 4; omega))
              have k2 := fun h => k1.store (j * 2) (.bool h)
              have e2 := (wcell_at Sh S j).2
              have e1' := (wcell_at Sh S j).1
              have m4 : ∀ o, (wr.alloc o).cell? ⟨w.heap.size + 4, j, none⟩ = some (.bool (H j)) := fun o => (hI.hv.of_block (heap_alloc_old wr o (by omega))).cellAt (by omega)
              have m4f : ∀ o, (wr.alloc o).frozen? ⟨w.heap.size + 4, j, none⟩ = false := fun o => (hI.hv.of_block (heap_alloc_old wr o (by omega))).free _
              have m5 : ∀ o, ((wr.setCell ⟨w.heap.size + 4, j, none⟩ (.bool true)).alloc o).cell? ⟨w.heap.size + 5, j * 2, none⟩ = some (.bool (Sh j)) := fun o => ((k1.of_block (heap_alloc_old _ o (by simp; omega))).cellAt (by omega)).trans (by rw [e1'])
              have m5f : ∀ o q, ((wr.setCell ⟨w.heap.size + 4, j, none⟩ (.bool true)).alloc o).frozen? ⟨w.heap.size + 5, q, none⟩ = false := fun o q => (k1.of_block (heap_alloc_old _ o (by simp; omega))).free q
              have m6 : ∀ h o, (((wr.setCell ⟨w.heap.size + 4, j, none⟩ (.bool true)).setCell ⟨w.heap.size + 5, j * 2, none⟩ (.bool h)).alloc o).cell? ⟨w.heap.size + 5, j * 2 + 1, none⟩ = some (.int .i64 (S j)) := fun h o => (((k2 h).of_block (heap_alloc_old _ o (by simp; omega))).cellAt (by omega)).trans (by rw [if_neg (by omega), e2])
              have m6f : ∀ h o q, (((wr.setCell ⟨w.heap.size + 4, j, none⟩ (.bool true)).setCell ⟨w.heap.size + 5, j * 2, none⟩ (.bool h)).alloc o).frozen? ⟨w.heap.size + 5, q, none⟩ = false := fun h o q => ((k2 h).of_block (heap_alloc_old _ o (by simp; omega))).free q
              have y0 : ∀ v0 v1, ((wr.setCell ⟨w.heap.size + 4, j, none⟩ (.bool true)).alloc (.cells #[v0, v1] 37)).cell? ⟨wr.heap.size, 0, none⟩ = some v0 := fun v0 v1 => (blockIs_newAt (w := wr.setCell ⟨w.heap.size + 4, j, none⟩ (.bool true)) rfl (by simp)).cellAt 0
              have y1 : ∀ v0 v1, ((wr.setCell ⟨w.heap.size + 4, j, none⟩ (.bool true)).alloc (.cells #[v0, v1] 37)).cell? ⟨wr.heap.size, 1, none⟩ = some v1 := fun v0 v1 => (blockIs_newAt (w := wr.setCell ⟨w.heap.size + 4, j, none⟩ (.bool true)) rfl (by simp)).cellAt 1
              have y2 : ∀ h t v0 v1, ((((wr.setCell ⟨w.heap.size + 4, j, none⟩ (.bool true)).setCell ⟨w.heap.size + 5, j * 2, none⟩ (.bool h)).setCell ⟨w.heap.size + 5, j * 2 + 1, none⟩ (.int .i64 t)).alloc (.cells #[v0, v1] 37)).cell? ⟨wr.heap.size, 0, none⟩ = some v0 := fun h t v0 v1 => (blockIs_newAt (w := ((wr.setCell ⟨w.heap.size + 4, j, none⟩ (.bool true)).setCell ⟨w.heap.size + 5, j * 2, none⟩ (.bool h)).setCell ⟨w.heap.size + 5, j * 2 + 1, none⟩ (.int .i64 t)) rfl (by simp)).cellAt 0
              have y3 : ∀ h t v0 v1, ((((wr.setCell ⟨w.heap.size + 4, j, none⟩ (.bool true)).setCell ⟨w.heap.size + 5, j * 2, none⟩ (.bool h)).setCell ⟨w.heap.size + 5, j * 2 + 1, none⟩ (.int .i64 t)).alloc (.cells #[v0, v1] 37)).cell? ⟨wr.heap.size, 1, none⟩ = some v1 := fun h t v0 v1 => (blockIs_newAt (w := ((wr.setCell ⟨w.heap.size + 4, j, none⟩ (.bool true)).setCell ⟨w.heap.size + 5, j * 2, none⟩ (.bool h)).setCell ⟨w.heap.size + 5, j * 2 + 1, none⟩ (.int .i64 t)) rfl (by simp)).cellAt 1
              have y4 : ∀ h t o, ((((wr.setCell ⟨w.heap.size + 4, j, none⟩ (.bool true)).setCell ⟨w.heap.size + 5, j * 2, none⟩ (.bool h)).setCell ⟨w.heap.size + 5, j * 2 + 1, none⟩ (.int .i64 t)).alloc o).cell? ⟨w.heap.size + 2, 1, none⟩ = some (.map (some (w.heap.size + 1))) := fun h t o =>
                ((hI.bs.of_block ((Below.heap_setCell _ _ _ _ (by show w.heap.size + 2 ≠ w.heap.size + 5; omega)).trans ((Below.heap_setCell _ _ _ _ (by show w.heap.size + 2 ≠ w.heap.size + 5; omega)).trans (Below.heap_setCell _ _ _ _ (by show w.heap.size + 2 ≠ w.heap.size + 4; omega))))).alloc o).cellAt 1
              clear k1 k2 e2 e1'
              have l2 : w.heap.size + 2 < wr.heap.size := by omega
              have l4 : w.heap.size + 4 < wr.heap.size := by omega
              have l5 : w.heap.size + 5 < wr.heap.size := by omega
              clear hf hI hstep hj
              go_wp2
              go_region
              all_goals go_wp2
              all_goals
                go_roundw
                case rel => exact ⟨q + 1, _, _, _, by omega, by go_num, HF2.out _ _ (tbound (X2 q) k (by omega))⟩
                case measure => simp [intOf]; omega
            · as_aux_lemma =>
              obtain rfl : q = m := by omega
              have hge2 : ¬ (q : Int) < (q : Int) := by omega
              obtain ⟨wB, hwB⟩ : ∃ wB : World, wB = wr := ⟨_, rfl⟩
              subst hwB
              have ep : Int.tmod (kp : Int) 4 = ((kp % 4 : Nat) : Int) := by
                rw [Int.tmod_eq_emod_of_nonneg (by omega)]; omega
              have ea : Int.tmod (ka : Int) 4 = ((ka % 4 : Nat) : Int) := by
                rw [Int.tmod_eq_emod_of_nonneg (by omega)]; omega
              obtain ⟨p, hp⟩ : ∃ p, p = kp % 4 := ⟨_, rfl⟩
              obtain ⟨a, ha⟩ : ∃ a, a = ka % 4 := ⟨_, rfl⟩
              have hp4 : p < 4 := by omega
              have ha4 : a < 4 := by omega
              rw [← hp] at ep
              rw [← ha] at ea
              clear hp ha
              have hpI : (p : Int) < 4 := by omega
              have haI : (a : Int) < 4 := by omega
              have hp0 : (0 : Int) ≤ (p : Int) := by omega
              have ha0 : (0 : Int) ≤ (a : Int) := by omega
              obtain ⟨tg, htg⟩ : ∃ tg, tg = p * 4 + a := ⟨_, rfl⟩
              have htI : (p : Int) * 4 + (a : Int) = (tg : Int) := by omega
              have ht16 : tg < 16 := by omega
              have hfree := free_any hI (by omega) hp4 ha4
              rw [← htg] at hfree
              clear htg hI hqm hlt
              go_wp2_with (go_at_call 5; refine hfree.mono ?_; rintro e w5 ⟨rfl, hF⟩)
              have hs5 := hF.size
              obtain ⟨G, hG⟩ : ∃ G : Nat → Bool, G = fun x => H x || decide (x = tg) := ⟨_, rfl⟩
              have hGu : upd H tg true = G := by
                rw [hG]
                funext x
                simp only [upd]
                by_cases hx : x = tg <;> simp [hx]
              have hmp := hF.mp
              rw [hGu] at hmp
              have hlen := hmp.len 3
              have HG : Hid (G = fun x => H x || decide (x = tg)) := hG
              have HMP : Hid (mapSt w5 (w.heap.size + 1) (q + 1) G (upd Sh tg false) (upd S tg (-1))) := hmp
              have HF : Hid (Fin2 w.heap.size q k w H Sh S fr tk tg w5) := hF
              have f1 : w5.cell? ⟨w.heap.size + 2, 1, none⟩ = some (.map (some (w.heap.size + 1))) := hF.bs.cellAt 1
              have f2 : w5.cell? ⟨w.heap.size + 2, 2, none⟩ = some (.slice (some ⟨w.heap.size + 3, 0, none⟩) k k) := hF.bs.cellAt 2
              clear hG hGu hmp hF hfree
              go_loopw [29, 30] (fun ct i wr => ∃ j : Nat, j ≤ 16 ∧ i = .int .i64 j ∧ ct = .int .i64 (cnt G j : Nat) ∧ w5 = wr) (fun _ i _ => 16 - (intOf i).toNat)
              case atStart => exact ⟨0, by omega, rfl, rfl, rfl⟩
              case round =>
                obtain ⟨j, hj16, rfl, rfl, rfl⟩ := hrel
                by_cases hjl : j < 16
                · as_aux_lemma =>
                  have hjI : (j : Int) < 16 := by omega
                  have hj0 : (0 : Int) ≤ (j : Int) := by omega
                  have hcs := cnt_succ G j
                  have hcl := cnt_le G j
                  have g4 : w5.cell? ⟨w.heap.size + 4, j, none⟩ = some (.bool (H j)) := HF.out.hv.cellAt (by omega)
                  have hGj : G j = (H j || decide (j = tg)) := by rw [HG.out]
                  obtain ⟨cj, hcj⟩ : ∃ cj, cj = cnt G j := ⟨_, rfl⟩
                  rw [← hcj] at hcs hcl
                  have HCS : Hid (cnt G (j + 1) = cj + (if G j then 1 else 0)) := hcs
                  have HGJ : Hid (G j = (H j || decide (j = tg))) := hGj
                  rw [← hcj]
                  clear hcs hGj hcj
                  cases hHj : H j with
                  | true =>
                    rw [hHj] at g4 HGJ
                    clear hHj
                    go_wp2
                    go_roundw
                    case rel => exact ⟨j + 1, by omega, by go_num, by rw [HCS.out, HGJ.out]; simp, trivial⟩
                    case measure => simp [intOf]; omega
                  | false =>
                    rw [hHj] at g4 HGJ
                    clear hHj
                    by_cases hjt : j = tg
                    · subst hjt
                      go_wp2
                      go_roundw
                      case rel => exact ⟨j + 1, by omega, by go_num, by rw [HCS.out, HGJ.out]; simp, trivial⟩
                      case measure => simp [intOf]; omega
                    · have hjtI : ¬ (j : Int) = (tg : Int) := by omega
                      go_wp2
                      go_roundw
                      case rel => exact ⟨j + 1, by omega, by go_num, by rw [HCS.out, HGJ.out]; simp [hjt], trivial⟩
                      case measure => simp [intOf]; omega
                · obtain rfl : j = 16 := by omega
                  rw [show ((16 : Nat) : Int) = 16 from rfl]
                  clear hjl hj16
                  go_wp2
                  go_loopw [31] (fun i wr => ∃ j : Nat, j ≤ 16 ∧ i = .int .i64 j ∧ Below w5.heap.size w5 wr) (fun i _ => 16 - (intOf i).toNat)
                  case atStart => exact ⟨0, by omega, rfl, Below.refl _ _⟩
                  case round =>
                    obtain ⟨j, hj16, rfl, hB⟩ := hrel
                    have hsz := hB.size
                    have FI := HF.out.later hB
                    by_cases hjl : j < 16
                    · as_aux_lemma =>
                      have hjI : (j : Int) < 16 := by omega
                      have hj0 : (0 : Int) ≤ (j : Int) := by omega
                      have v1 : wr.cell? ⟨w.heap.size + 2, 1, none⟩ = some (.map (some (w.heap.size + 1))) := FI.bs.cellAt 1
                      have ed : Int.tdiv (j : Int) 4 = ((j / 4 : Nat) : Int) := by
                        rw [Int.tdiv_eq_ediv_of_nonneg (by omega)]; omega
                      have em : Int.tmod (j : Int) 4 = ((j % 4 : Nat) : Int) := by
                        rw [Int.tmod_eq_emod_of_nonneg (by omega)]; omega
                      have hmp : mapSt wr (w.heap.size + 1) (q + 1) G (upd Sh tg false) (upd S tg (-1)) := HMP.out.of_block (hB.block _ (by omega))
                      have hlk := hmp.look (p := j / 4) (a := j % 4) (by omega) (by omega)
                      have hpa : j / 4 * 4 + j % 4 = j := by omega
                      rw [hpa] at hlk
                      obtain ⟨p', hp'⟩ : ∃ p', p' = j / 4 := ⟨_, rfl⟩
                      obtain ⟨a', ha'⟩ : ∃ a', a' = j % 4 := ⟨_, rfl⟩
                      rw [← hp'] at ed hlk
                      rw [← ha'] at em hlk
                      have hp'4 : (p' : Int) < 4 := by omega
                      have ha'4 : (a' : Int) < 4 := by omega
                      have hp'0 : (0 : Int) ≤ (p' : Int) := by omega
                      have ha'0 : (0 : Int) ≤ (a' : Int) := by omega
                      have hGj : G j = (H j || decide (j = tg)) := by rw [HG.out]
                      have l4 : w.heap.size + 4 < wr.heap.size := by omega
                      have l5 : w.heap.size + 5 < wr.heap.size := by omega
                      have v4 : ∀ o, (wr.alloc o).cell? ⟨w.heap.size + 4, j, none⟩ = some (.bool (H j)) := fun o => (FI.hv.of_block (heap_alloc_old wr o (by omega))).cellAt (by omega)
                      have v5 : ∀ o, (wr.alloc o).cell? ⟨w.heap.size + 5, j * 2, none⟩ = some (.bool (Sh j)) := fun o => ((FI.ws.of_block (heap_alloc_old wr o (by omega))).cellAt (by omega)).trans (by rw [(wcell_at Sh S j).1])
                      have v6 : ∀ o, (wr.alloc o).cell? ⟨w.heap.size + 5, j * 2 + 1, none⟩ = some (.int .i64 (S j)) := fun o => ((FI.ws.of_block (heap_alloc_old wr o (by omega))).cellAt (by omega)).trans (by rw [(wcell_at Sh S j).2])
                      clear hpa hp' ha' hmp FI
                      by_cases hjt : j = tg
                      · subst hjt
                        have hGt : G j = true := by rw [hGj]; simp
                        rw [hGt] at hlk
                        simp only [spotV, upd, if_true] at hlk
                        clear hGj hGt
                        go_wp2
                        go_roundw
                        case rel => exact ⟨j + 1, by omega, by go_num, hB.alloc (by omega) _⟩
                        case measure => simp [intOf]; omega
                      · have hjtI : ¬ (j : Int) = (tg : Int) := by omega
                        have hGt : G j = H j := by rw [hGj]; simp [hjt]
                        rw [hGt] at hlk
                        cases hHj : H j with
                        | true =>
                          rw [hHj] at hlk v4
                          simp only [spotV, upd, hjt, if_true, if_false] at hlk
                          clear hGj hGt hHj
                          go_wp2
                          go_quiet (fail)
                          go_wp2
                          go_roundw
                          case rel => exact ⟨j + 1, by omega, by go_num, below_drewN (hB.alloc (by omega) _) _⟩
                          case measure => simp [intOf]; omega
                        | false =>
                          rw [hHj] at hlk v4
                          simp only [spotV, Bool.false_eq_true, if_false] at hlk
                          clear hGj hGt hHj
                          go_wp2
                          go_quiet (fail)
                          go_wp2
                          go_roundw
                          case rel => exact ⟨j + 1, by omega, by go_num, below_drewN (hB.alloc (by omega) _) _⟩
                          case measure => simp [intOf]; omega
                    · as_aux_lemma =>
                      obtain rfl : j = 16 := by omega
                      rw [show ((16 : Nat) : Int) = 16 from rfl]
                      clear hjl hj16
                      obtain ⟨w6, hw6⟩ : ∃ w6 : World, w6 = wr := ⟨_, rfl⟩
                      subst hw6
                      have v2 : w6.cell? ⟨w.heap.size + 2, 2, none⟩ = some (.slice (some ⟨w.heap.size + 3, 0, none⟩) k k) := FI.bs.cellAt 2
                      have HFI : Hid (Fin2 w.heap.size q k w H Sh S fr tk tg w6) := FI
                      have hs6 := FI.size
                      clear FI
                      go_wp2
                      go_loopw [34] (fun i wr => ∃ j : Nat, j ≤ k ∧ i = .int .i64 j ∧ Below w6.heap.size w6 wr) (fun i _ => k - (intOf i).toNat)
                      case atStart => exact ⟨0, by omega, rfl, Below.refl _ _⟩
                      case round =>
                        obtain ⟨j, hjk, rfl, hB6⟩ := hrel
                        have hsz6 := hB6.size
                        have FI := HFI.out.later hB6
                        by_cases hjl : j < k
                        · as_aux_lemma =>
                          have hjI : (j : Int) < (k : Int) := by omega
                          have hj0 : (0 : Int) ≤ (j : Int) := by omega
                          have htI16 : (tg : Int) < 16 := by omega
                          have htI0 : (0 : Int) ≤ (tg : Int) := by omega
                          have z2 : wr.cell? ⟨w.heap.size + 2, 2, none⟩ = some (.slice (some ⟨w.heap.size + 3, 0, none⟩) k k) := FI.bs.cellAt 2
                          have z4 : wr.cell? ⟨w.heap.size + 4, tg, none⟩ = some (.bool (H tg)) := FI.hv.cellAt (by omega)
                          have z5 : wr.cell? ⟨w.heap.size + 5, tg * 2 + 1, none⟩ = some (.int .i64 (S tg)) := (FI.ws.cellAt (by omega)).trans (by rw [(wcell_at Sh S tg).2])
                          have tc := tcell_at (fun i => fr i || (H tg && decide (S tg = (i : Int)))) tk j
                          have r0 : wr.cell? ⟨w.heap.size + 3, j * 7, none⟩ = some (.int .u64 0) := (FI.tn.cellAt (by omega)).trans (by rw [tc.1])
                          have r1 : wr.cell? ⟨w.heap.size + 3, j * 7 + 1, none⟩ = some (.bool false) := (FI.tn.cellAt (by omega)).trans (by rw [tc.2.1])
                          have r2 : wr.cell? ⟨w.heap.size + 3, j * 7 + 2, none⟩ = some (.bool (fr j || (H tg && decide (S tg = (j : Int))))) := (FI.tn.cellAt (by omega)).trans (by rw [tc.2.2.1])
                          have r3 : wr.cell? ⟨w.heap.size + 3, j * 7 + 3, none⟩ = some (.bool false) := (FI.tn.cellAt (by omega)).trans (by rw [tc.2.2.2.1])
                          have r4 : wr.cell? ⟨w.heap.size + 3, j * 7 + 4, none⟩ = some (.bool false) := (FI.tn.cellAt (by omega)).trans (by rw [tc.2.2.2.2.1])
                          have r5 : wr.cell? ⟨w.heap.size + 3, j * 7 + 5, none⟩ = some (.slice none 0 0) := (FI.tn.cellAt (by omega)).trans (by rw [tc.2.2.2.2.2.1])
                          have r6 : wr.cell? ⟨w.heap.size + 3, j * 7 + 6, none⟩ = some (.int .i64 (-1)) := (FI.tn.cellAt (by omega)).trans (by rw [tc.2.2.2.2.2.2, HTen.out.t j hjl])
                          have hfj := HTen.out.f j hjl
                          rw [hfj] at r2
                          have hBel := FI.below
                          clear tc hfj FI
                          by_cases h4 : j < n4
                          · obtain rfl : a4 = some ⟨b4, o4, none⟩ := H4.out.at_ (by omega)
                            have q4 : wr.cell? ⟨b4, o4 + j, none⟩ = some (.bool (F j)) := (hBel.cell (H4.out.lt (by omega))).trans (H4.out.c0 j h4)
                            have h4I : (j : Int) < (n4 : Int) := by omega
                            have hd4 : decide (j < n4) = true := by simp [h4]
                            rw [hd4, Bool.true_and] at r2
                            cases hHt : H tg with
                            | true =>
                              rw [hHt] at z4 r2
                              by_cases hS : S tg = (j : Int)
                              · rw [hS] at z5 r2
                                simp only [Bool.true_and, decide_true, Bool.or_true] at r2
                                clear hHt hS
                                go_wp2
                                go_roundw
                                case rel => exact ⟨j + 1, by omega, by go_num, hB6.alloc (by omega) _⟩
                                case measure => simp [intOf]; omega
                              · have hdS : decide (S tg = (j : Int)) = false := by simp [hS]
                                rw [hdS] at r2
                                simp only [Bool.and_false, Bool.or_false] at r2
                                clear hHt
                                go_wp2
                                go_roundw
                                case rel => exact ⟨j + 1, by omega, by go_num, hB6.alloc (by omega) _⟩
                                case measure => simp [intOf]; omega
                            | false =>
                              rw [hHt] at z4 r2
                              simp only [Bool.false_and, Bool.or_false] at r2
                              clear hHt
                              go_wp2
                              go_roundw
                              case rel => exact ⟨j + 1, by omega, by go_num, hB6.alloc (by omega) _⟩
                              case measure => simp [intOf]; omega
                          · have h4I : ¬ (j : Int) < (n4 : Int) := by omega
                            have hd4 : decide (j < n4) = false := by simp [h4]
                            rw [hd4, Bool.false_and, Bool.false_or] at r2
                            cases hHt : H tg with
                            | true =>
                              rw [hHt] at z4 r2
                              by_cases hS : S tg = (j : Int)
                              · rw [hS] at z5 r2
                                simp only [Bool.true_and, decide_true] at r2
                                clear hHt hS
                                go_wp2
                                go_roundw
                                case rel => exact ⟨j + 1, by omega, by go_num, hB6.alloc (by omega) _⟩
                                case measure => simp [intOf]; omega
                              · have hdS : decide (S tg = (j : Int)) = false := by simp [hS]
                                rw [hdS] at r2
                                simp only [Bool.and_false] at r2
                                clear hHt
                                go_wp2
                                go_roundw
                                case rel => exact ⟨j + 1, by omega, by go_num, hB6.alloc (by omega) _⟩
                                case measure => simp [intOf]; omega
                            | false =>
                              rw [hHt] at z4 r2
                              simp only [Bool.false_and] at r2
                              clear hHt
                              go_wp2
                              go_roundw
                              case rel => exact ⟨j + 1, by omega, by go_num, hB6.alloc (by omega) _⟩
                              case measure => simp [intOf]; omega
                        · obtain rfl : j = k := by omega
                          have hge3 : ¬ (j : Int) < (j : Int) := by omega
                          go_wp2
                          go_ret
                          exact ⟨rfl, FI.below⟩

end Go.Proofs.Ybulkgaq
