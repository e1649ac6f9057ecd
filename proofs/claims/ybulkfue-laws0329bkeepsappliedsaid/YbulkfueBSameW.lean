import Derived.Test.YbulkfueBBase
import Derived.Test.YbulkfueBInv
import Derived.Deep.LoopGhost
import Derived.LaidEql
namespace Go.Proofs.Ybulkfue
open Go.RowKit Go.MuLone

theorem Yba.info29 : (Yba.prog.info? 29).map (fun i => (i.zero, i.size, i.bytes)) = some (some (.agg #[.string ByteArray.empty, .int .u64 0]), 2, 24) := by kernel_rfl
theorem Yba.info33 : (Yba.prog.info? 33).map (fun i => (i.zero, i.size, i.bytes)) = some (some (.pointer none), 1, 8) := by kernel_rfl

/-- 'make([]Sender, 0, n)', 'make([]*mark, 0, n)': for every world. -/
theorem make25 (n : Nat) (hn : n ≤ 1024) (w : World) : (Instr.makeSlice 25 (.int .i64 0) (.int .i64 n)).run Yba.prog w = .ok (.slice (some ⟨w.heap.size, 0, none⟩) 0 n) (w.alloc (.cells (madeCells #[.string ByteArray.empty, .int .u64 0] (n * 2)) 29)) := by
  obtain ⟨i, hi, hz, hs, hb⟩ := info_parts Yba.info29
  have := run_make (P := Yba.prog) w 25 29 i _ Yba.underlying25 hi hz .i64 .i64 0 n (by omega) (by omega) (by rw [hb]; omega) (by omega)
  rw [hs] at this
  simpa [Value.cells] using this
theorem make26 (n : Nat) (hn : n ≤ 1024) (w : World) : (Instr.makeSlice 26 (.int .i64 0) (.int .i64 n)).run Yba.prog w = .ok (.slice (some ⟨w.heap.size, 0, none⟩) 0 n) (w.alloc (.cells (madeCells #[.pointer none] (n * 1)) 33)) := by
  obtain ⟨i, hi, hz, hs, hb⟩ := info_parts Yba.info33
  have := run_make (P := Yba.prog) w 26 33 i _ Yba.underlying26 hi hz .i64 .i64 0 n (by omega) (by omega) (by rw [hb]; omega) (by omega)
  rw [hs] at this
  simpa [Value.cells] using this

theorem Yba.info46 : (Yba.prog.info? 46).map (·.size) = some 3 := by kernel_rfl
/-- Two pointers to marks. -/
theorem equal33 (x y : Nat) {cx cy : Array Value} {tx ty : TypeId} (w : World) (hx : w.heap[x]? = some (.cells cx tx (0, 0))) (hy : w.heap[y]? = some (.cells cy ty (0, 0))) (d : Nat) :
    (Op.equalIn (d + 1) 33 (.pointer (some ⟨x, 0, none⟩)) (.pointer (some ⟨y, 0, none⟩))).run Yba.prog w = .ok (decide (x = y)) w := by
  obtain ⟨i, hi, hs⟩ := Option.map_eq_some_iff.1 Yba.info46
  have hs' : i.size ≠ 0 := by omega
  by_cases e : x = y
  · subst e
    simp [Op.equalIn, run_underlying Yba.underlying33, sizeOf, typeInfo, hi, run_sameAddr_same]
  · have := run_sameAddr_other (P := Yba.prog) w (a := ⟨x, 0, none⟩) (b := ⟨y, 0, none⟩) (fun h => e (by injection h)) hx hy
    simp [Op.equalIn, run_underlying Yba.underlying33, sizeOf, typeInfo, hi, this, e, hs]
theorem eql33 (x y : Nat) {cx cy : Array Value} {tx ty : TypeId} (w : World) (hx : w.heap[x]? = some (.cells cx tx (0, 0))) (hy : w.heap[y]? = some (.cells cy ty (0, 0))) :
    (binOp .eql 33 (.pointer (some ⟨x, 0, none⟩)) (.pointer (some ⟨y, 0, none⟩))).run Yba.prog w = .ok (.bool (decide (x = y))) w := by
  simp only [binOp]
  simp [Op.equal, Op.maxDepth, equal33 x y w hx hy 9999]
theorem neq33 (x y : Nat) {cx cy : Array Value} {tx ty : TypeId} (w : World) (hx : w.heap[x]? = some (.cells cx tx (0, 0))) (hy : w.heap[y]? = some (.cells cy ty (0, 0))) :
    (binOp .neq 33 (.pointer (some ⟨x, 0, none⟩)) (.pointer (some ⟨y, 0, none⟩))).run Yba.prog w = .ok (.bool (!decide (x = y))) w := by
  simp only [binOp]
  simp [Op.equal, Op.maxDepth, equal33 x y w hx hy 9999]

theorem byteArray_eq {a b : ByteArray} (h : (a == b) = true) : a = b := by
  obtain ⟨x⟩ := a
  obtain ⟨y⟩ := b
  have h' : (x == y) = true := h
  rw [eq_of_beq h']

/-- A new block's cells. -/
theorem new_cells (w : World) (C : Array Value) (t : TypeId) (i : Nat) : (w.alloc (.cells C t)).cell? ((⟨w.heap.size, 0, none⟩ : Addr).add i) = C[i]? := by
  rw [WideShapes.add_plain, Nat.zero_add]
  exact cell_of_row _ _ _ _ _ _ (heap_alloc_new w _)

/-- senders[j] == s, as Go reckons it. -/
def sameB (sS : Nat → ByteArray) (sE : Nat → Int) (k j : Nat) : Bool := ((sS j).toList == (sS k).toList) && (sE j == sE k)
/-- 'seen' behind j rounds. -/
def seenB (sS : Nat → ByteArray) (sE : Nat → Int) (k : Nat) : Nat → Bool
  | 0 => false
  | j + 1 => seenB sS sE k j || sameB sS sE k j
theorem sameB_iff {sS : Nat → ByteArray} {sE : Nat → Int} (hss : ∀ j, (sS j).size ≤ maxLen) (hse : ∀ j, (Lit.int .u64 (sE j)).wf = true) (k j : Nat) : sameB sS sE k j = true ↔ klit (sS j) (sE j) = klit (sS k) (sE k) := by
  constructor
  · intro h
    simp only [sameB, Bool.and_eq_true, ← beq_toListBytes, beq_iff_eq] at h
    rw [byteArray_eq h.1, h.2]
  · intro h
    obtain ⟨h1, h2⟩ := klit_inj (hss j) (hse j) (hss k) (hse k) h
    simp [sameB, h1, h2]
theorem seenB_iff {sS : Nat → ByteArray} {sE : Nat → Int} (hss : ∀ j, (sS j).size ≤ maxLen) (hse : ∀ j, (Lit.int .u64 (sE j)).wf = true) (k : Nat) : ∀ j, seenB sS sE k j = true ↔ ∃ i, i < j ∧ klit (sS i) (sE i) = klit (sS k) (sE k)
  | 0 => by simp [seenB]
  | j + 1 => by
    simp only [seenB, Bool.or_eq_true, seenB_iff hss hse k j, sameB_iff hss hse k j]
    constructor
    · rintro (⟨i, hi, e⟩ | e)
      · exact ⟨i, by omega, e⟩
      · exact ⟨j, by omega, e⟩
    · rintro ⟨i, hi, e⟩
      by_cases h : i = j
      · exact .inr (h ▸ e)
      · exact .inl ⟨i, by omega, e⟩

/-- The cells of the steps that came in. -/
structure Steps (w : World) (b off n : Nat) (op st ep sq : Nat → Int) : Prop where
  c0 : ∀ i, i < n → w.cell? ⟨b, off + i * 4, none⟩ = some (.int .u8 (op i))
  c1 : ∀ i, i < n → w.cell? ⟨b, off + i * 4 + 1, none⟩ = some (.int .u8 (st i))
  c2 : ∀ i, i < n → w.cell? ⟨b, off + i * 4 + 2, none⟩ = some (.int .u8 (ep i))
  c3 : ∀ i, i < n → w.cell? ⟨b, off + i * 4 + 3, none⟩ = some (.int .u64 (sq i))
  b0 : ∀ i, 0 ≤ op i ∧ op i ≤ 255
  b1 : ∀ i, 0 ≤ st i ∧ st i ≤ 255
  b2 : ∀ i, 0 ≤ ep i ∧ ep i ≤ 255
  b3 : ∀ i, 0 ≤ sq i ∧ sq i ≤ 18446744073709551615

set_option maxRecDepth 100000 in
set_option maxHeartbeats 2000000 in
theorem same_walk (b off n c : Nat) (op st ep sq : Nat → Int) (w : World) (hn : n ≤ 1024) (hst : Steps w b off n op st ep sq) :
    Calls Yba.prog 3 #[.slice (some ⟨b, off, none⟩) n c] w fun e w' => e = .returned (.bool true) ∧ Below w.heap.size w w' := by
  have hm1 := make25 n hn
  have hm2 := make26 n hn
  obtain ⟨sS, hS⟩ : ∃ sS : Nat → ByteArray, sS = fun j => siteB (st j) := ⟨_, rfl⟩
  obtain ⟨sE, hE⟩ : ∃ sE : Nat → Int, sE = fun j => ep j % 3 := ⟨_, rfl⟩
  have hss : ∀ j, (sS j).size ≤ maxLen := fun j => by rw [hS]; exact siteB_small _
  have hse : ∀ j, (Lit.int .u64 (sE j)).wf = true := fun j => by rw [hE]; have := hst.b2 j; exact WalkArith.wf_u64 (by show 0 ≤ ep j % 3 ∧ ep j % 3 ≤ _; omega)
  have hsend : ∀ j W, Calls Yba.prog 8 #[.agg #[.int .u8 (op j), .int .u8 (st j), .int .u8 (ep j), .int .u64 (sq j)]] W fun e w' => e = .returned (.agg #[.string (sS j), .int .u64 (sE j)]) ∧ Below W.heap.size W w' := by
    intro j W
    rw [hS, hE]
    exact sender_any (op j) (st j) (ep j) (sq j) W (hst.b1 j).1 (hst.b1 j).2 (hst.b2 j).1
  have HSE : Hid ((∀ j, (sS j).size ≤ maxLen) ∧ (∀ j, (Lit.int .u64 (sE j)).wf = true) ∧ Steps w b off n op st ep sq) := ⟨hss, hse, hst⟩
  clear hS hE hss hse hst
  go_enter Yba.func3, Yba.ntmps3
  go_wp2_with (go_at_call 7; refine (newInbox_any w).mono ?_; rintro e w' ⟨rfl, rfl⟩)
  clear hm1 hm2
  go_loopw [4, 5, 6, 7] (fun sv mv dv iv wr => ∃ k d : Nat, k ≤ n ∧ iv = .int .i64 k ∧ sv = .slice (some ⟨w.heap.size + 2, 0, none⟩) k n ∧ mv = .slice (some ⟨w.heap.size + 3, 0, none⟩) k n ∧ dv = .int .i64 d ∧ ∃ f mk, SInv w wr n sS sE k k d f mk) (fun _ _ _ i _ => n - (intOf i).toNat)
  case atStart => exact ⟨0, 0, Nat.zero_le _, rfl, rfl, rfl, rfl, _, fun _ => 0, SInv_start w n sS sE _ _ _⟩
  case round =>
    obtain ⟨k, d, hk, rfl, rfl, rfl, rfl, f, mk, hI⟩ := hrel
    have hdk : d ≤ k := hI.map.size_le
    by_cases hlt : k < n
    · obtain ⟨hss, hse, hst⟩ := HSE.out
      have hkeep : ∀ j v, w.cell? ⟨b, j, none⟩ = some v → wr.cell? ⟨b, j, none⟩ = some v := fun j v h => (hI.below.cell (block_lt_of_cell h)).trans h
      have g0 := hkeep _ _ (hst.c0 k hlt)
      have g1 := hkeep _ _ (hst.c1 k hlt)
      have g2 := hkeep _ _ (hst.c2 k hlt)
      have g3 := hkeep _ _ (hst.c3 k hlt)
      have hk0 : (0 : Int) ≤ (k : Int) := by omega
      have hk1 : (k : Int) < (n : Int) := by omega
      have HI : Hid (SInv w wr n sS sE k k d f mk) := hI
      clear hss hse hst hkeep hI
      go_wp2_with (go_at_call 8; refine (hsend k wr).mono ?_; rintro e w1 ⟨rfl, hb1⟩)
      clear g0 g1 g2 g3
      have hb2 : Below wr.heap.size wr (w1.alloc (.cells #[.string (sS k), .int .u64 (sE k)] 29)) := hb1.alloc hb1.size _
      refine (mark_step HI.out hn hlt HSE.out.1 HSE.out.2.1 hb2).mono ?_
      rintro e w3 ⟨q, f', d', mk', rfl, hI3, hmq, hiff, hd', hsz3, hold3⟩
      have HI3 : Hid (SInv w w3 n sS sE (k + 1) k d' f' mk') := hI3
      have hs8 := hold3 w1.heap.size hb1.size (by simp)
      rw [heap_alloc_new] at hs8
      have cs0 : w3.cell? ⟨w1.heap.size, 0, none⟩ = some (.string (sS k)) := cell_of_row _ _ _ _ _ _ hs8
      have cs1 : w3.cell? ⟨w1.heap.size, 1, none⟩ = some (.int .u64 (sE k)) := cell_of_row _ _ _ _ _ _ hs8
      have cI : w3.cell? ⟨w.heap.size + 1, 2, none⟩ = some (.map (some w.heap.size)) := cell_of_row _ _ _ _ _ _ hI3.inbox
      have hlook : ∀ m, (Instr.lookup 42 (.map (some w.heap.size)) (.agg #[.string (sS k), .int .u64 (sE k)]) false).run Yba.prog (w3.drewN m) = .ok (.pointer (some ⟨q, 0, none⟩)) (w3.drewN m) := by
        intro m
        have hM : mapIs (w3.drewN m) Yba.prog 29 w.heap.size (k + 1) f' d' := hI3.map
        have := hM.look Yba.law29 Yba.underlying42 (Yba.zero33 _) (keyOf_sender (sS k) (sE k) (HSE.out.1 k) (HSE.out.2.1 k))
        rw [this, hI3.hit k (by omega), hmq]
        rfl
      have hqq : ∀ m, (binOp .neq 33 (.pointer (some ⟨q, 0, none⟩)) (.pointer (some ⟨q, 0, none⟩))).run Yba.prog (w3.drewN m) = .ok (.bool false) (w3.drewN m) := by
        intro m
        have hq3 := (hI3.marks k (by omega)).2
        rw [hmq] at hq3
        have := neq33 q q (w3.drewN m) hq3 hq3
        rw [this]
        simp
      have HF : Hid (mk' k = q ∧ (∀ j, j < k → (mk' j = q ↔ klit (sS j) (sE j) = klit (sS k) (sE k))) ∧ d' = (open Classical in if ∃ j, j < k ∧ klit (sS j) (sE j) = klit (sS k) (sE k) then d else d + 1) ∧ (w1.alloc (.cells #[.string (sS k), .int .u64 (sE k)] 29)).heap.size ≤ w3.heap.size) := ⟨hmq, hiff, hd', hsz3⟩
      clear hI3 hmq hiff hd' hsz3 hold3 hs8 hb2
      go_wp2_with fail
      go_quiet (fail)
      go_wp2_with fail
      clear hlook hqq cI
      obtain ⟨wo, hwo⟩ : ∃ wo : World, wo = wr := ⟨_, rfl⟩
      rw [← hwo] at HI hb1
      clear hwo wr
      go_loopw [10, 11] (fun sv jv wi => ∃ j : Nat, j ≤ k ∧ jv = .int .i64 j ∧ sv = .bool (seenB sS sE k j) ∧ ∃ m, wi = w3.drewN m) (fun _ j _ => k - (intOf j).toNat)
      case atStart => exact ⟨0, Nat.zero_le _, rfl, rfl, nq, rfl⟩
      case round =>
        obtain ⟨j, hj, rfl, rfl, m, rfl⟩ := hrel
        by_cases hjk : j < k
        · have r0 : w3.cell? ⟨w.heap.size + 2, j * 2, none⟩ = some (.string (sS j)) := by rw [HI3.out.rowS.cellAt (by omega), cellS_even]
          have r1 : w3.cell? ⟨w.heap.size + 2, j * 2 + 1, none⟩ = some (.int .u64 (sE j)) := by rw [HI3.out.rowS.cellAt (by omega), cellS_odd]
          have r2 : w3.cell? ⟨w.heap.size + 3, j, none⟩ = some (.pointer (some ⟨mk' j, 0, none⟩)) := HI3.out.rowM.cellAt (by omega)
          have hj0 : (0 : Int) ≤ (j : Int) := by omega
          have hj1 : (j : Int) < (k : Int) := by omega
          have hq3 := (HI3.out.marks k (by omega)).2
          rw [HF.out.1] at hq3
          have hj3 := (HI3.out.marks j (by omega)).2
          have hif := (HF.out.2.1 j hjk).trans (sameB_iff HSE.out.1 HSE.out.2.1 k j).symm
          have hsn : seenB sS sE k (j + 1) = (seenB sS sE k j || sameB sS sE k j) := rfl
          have hsb : sameB sS sE k j = (((sS j).toList == (sS k).toList) && (sE j == sE k)) := rfl
          by_cases hsm : sameB sS sE k j = true
          · have hcmp : ∀ m, (binOp .neq 33 (.pointer (some ⟨mk' j, 0, none⟩)) (.pointer (some ⟨q, 0, none⟩))).run Yba.prog (w3.drewN m) = .ok (.bool false) (w3.drewN m) := by
              intro m
              have := neq33 (mk' j) q (w3.drewN m) hj3 hq3
              rw [this]
              simp [hif.2 hsm]
            rw [hsm, Bool.or_true] at hsn
            rw [hsm] at hsb
            have e1 : ((sS j).toList == (sS k).toList) = true := by cases h : ((sS j).toList == (sS k).toList) <;> simp [h] at hsb ⊢
            have e2 : (sE j == sE k) = true := by cases h : (sE j == sE k) <;> simp [h] at hsb ⊢
            have HSN : Hid (seenB sS sE k (j + 1) = true) := hsn
            clear hsn hsb hsm hif hj3 hq3
            go_wp2_with fail
            go_quiet (fail)
            go_wp2_with fail
            go_roundw
            case rel => exact ⟨j + 1, by omega, by go_num, by rw [HSN.out], m + nq, rfl⟩
            case measure => simp [intOf]; omega
          · have hcmp : ∀ m, (binOp .eql 33 (.pointer (some ⟨mk' j, 0, none⟩)) (.pointer (some ⟨q, 0, none⟩))).run Yba.prog (w3.drewN m) = .ok (.bool false) (w3.drewN m) := by
              intro m
              have := eql33 (mk' j) q (w3.drewN m) hj3 hq3
              rw [this]
              have hne : ¬ mk' j = q := fun h => hsm (hif.1 h)
              simp [hne]
            have hsf : sameB sS sE k j = false := by simpa using hsm
            rw [hsf, Bool.or_false] at hsn
            rw [hsf] at hsb
            have HSN : Hid (seenB sS sE k (j + 1) = seenB sS sE k j) := hsn
            have HSB : Hid (false = (((sS j).toList == (sS k).toList) && (sE j == sE k))) := hsb
            clear hsn hsb hsm hif hj3 hq3 hsf
            cases e1 : ((sS j).toList == (sS k).toList) with
            | false =>
              go_wp2_with fail
              go_quiet (fail)
              go_wp2_with fail
              go_roundw
              case rel => exact ⟨j + 1, by omega, by go_num, by rw [HSN.out], m + nq, rfl⟩
              case measure => simp [intOf]; omega
            | true =>
              have e2 : (sE j == sE k) = false := by have := HSB.out; rw [e1] at this; simpa using this.symm
              go_wp2_with fail
              go_quiet (fail)
              go_wp2_with fail
              go_roundw
              case rel => exact ⟨j + 1, by omega, by go_num, by rw [HSN.out], m + nq, rfl⟩
              case measure => simp [intOf]; omega
        · have ejk : j = k := by omega
          subst ejk
          have cq : w3.cell? ⟨q, 2, none⟩ = some (.int .u64 0) := by
            have hq3 := (HI3.out.marks j (by omega)).2
            rw [HF.out.1] at hq3
            exact cell_of_row _ _ _ _ _ _ hq3
          obtain ⟨i29, h29, _, s29, _⟩ := info_parts Yba.info29
          obtain ⟨i33, h33, _, s33, _⟩ := info_parts Yba.info33
          have hbA : Below w3.heap.size w3 ((w3.drewN m).alloc (.cells #[.string (sS j), .int .u64 (sE j)] 29)) := (below_drewN (Below.refl _ _) m).alloc (Nat.le_refl _) _
          have hA := (HI3.out.of_below hbA).rowS
          have hA0 : ∀ i, i < 2 → ((w3.drewN m).alloc (.cells #[.string (sS j), .int .u64 (sE j)] 29)).cell? ((⟨w3.heap.size, 0, none⟩ : Addr).add i) = some (cellS sS sE (j * 2 + i)) := by
            intro i hi
            have := new_cells (w3.drewN m) #[.string (sS j), .int .u64 (sE j)] 29 i
            rw [show (w3.drewN m).heap.size = w3.heap.size from rfl] at this
            rw [this]
            match i, hi with
            | 0, _ => rw [Nat.add_zero, cellS_even]; rfl
            | 1, _ => rw [cellS_odd]; rfl
          have hA1 : ∀ i, i < 2 → (cellS sS sE (j * 2 + i)).oneCell' = true := by
            intro i hi
            match i, hi with
            | 0, _ => rw [Nat.add_zero, cellS_even]; rfl
            | 1, _ => rw [cellS_odd]; rfl
          have hB0 : ∀ wb : World, ∀ i, i < 1 → (wb.alloc (.cells #[.pointer (some ⟨q, 0, none⟩)] 33)).cell? ((⟨wb.heap.size, 0, none⟩ : Addr).add i) = some (cellM mk' (j * 1 + i)) := by
            intro wb i hi
            rw [new_cells]
            match i, hi with
            | 0, _ => simp [cellM, HF.out.1]
          have hB1 : ∀ i, i < 1 → (cellM mk' (j * 1 + i)).oneCell' = true := fun i _ => rfl
          have HA : Hid (Below w3.heap.size w3 ((w3.drewN m).alloc (.cells #[.string (sS j), .int .u64 (sE j)] 29)) ∧ rowsAt ((w3.drewN m).alloc (.cells #[.string (sS j), .int .u64 (sE j)] 29)) (w.heap.size + 2) 29 2 n j (cellS sS sE) ∧
              (∀ i, i < 2 → ((w3.drewN m).alloc (.cells #[.string (sS j), .int .u64 (sE j)] 29)).cell? ((⟨w3.heap.size, 0, none⟩ : Addr).add i) = some (cellS sS sE (j * 2 + i))) ∧ (∀ i, i < 2 → (cellS sS sE (j * 2 + i)).oneCell' = true)) := ⟨hbA, hA, hA0, hA1⟩
          have HB : Hid ((∀ wb : World, ∀ i, i < 1 → (wb.alloc (.cells #[.pointer (some ⟨q, 0, none⟩)] 33)).cell? ((⟨wb.heap.size, 0, none⟩ : Addr).add i) = some (cellM mk' (j * 1 + i))) ∧ (∀ i, i < 1 → (cellM mk' (j * 1 + i)).oneCell' = true)) := ⟨hB0, hB1⟩
          clear hbA hA hA0 hA1 hB0 hB1
          cases hsn : seenB sS sE j j with
          | true =>
            have hd1 : d' = d := by rw [HF.out.2.2.1, if_pos ((seenB_iff HSE.out.1 HSE.out.2.1 j j).1 hsn)]
            have HD : Hid (d' = d) := hd1
            clear hd1
            go_wp2_with (first
              | (at_builtin; refine wpList_append_rows _ rfl (.tmp 78) (.tmp 80) 25 rfl (w.heap.size + 2) 29 2 n j (cellS sS sE) i29 HA.out.2.1 Yba.underlying25 h29 s29 hlt ⟨w3.heap.size, 0, none⟩ 1 rfl rfl HA.out.2.2.1 HA.out.2.2.2 ?_; intro wb hrb hgb hzb; clear hzb)
              | (at_builtin; refine wpList_append_rows _ rfl (.tmp 82) (.tmp 84) 26 rfl (w.heap.size + 3) 33 1 n j (cellM mk') i33 ((HI3.out.mid HA.out.1 hgb).of_block (Below.heap_alloc _ _ _ (HI3.out.mid HA.out.1 hgb).lt)) Yba.underlying26 h33 s33 hlt ⟨wb.heap.size, 0, none⟩ 1 rfl rfl (HB.out.1 wb) HB.out.2 ?_; intro wd hrd hgd hzd; clear hzd))
            go_roundw
            case rel => exact ⟨j + 1, d, by omega, by go_num, rfl, rfl, rfl, f', mk', by have := HI3.out.push HA.out.1 hgb hrb ((Below.refl _ _).alloc (Nat.le_refl _) _) hgd hrd; rw [HD.out] at this; exact this⟩
            case measure => simp [intOf]; omega
          | false =>
            have hd1 : d' = d + 1 := by rw [HF.out.2.2.1, if_neg (fun h => by rw [(seenB_iff HSE.out.1 HSE.out.2.1 j j).2 h] at hsn; cases hsn)]
            have HD : Hid (d' = d + 1) := hd1
            clear hd1
            go_wp2_with (first
              | (at_builtin; refine wpList_append_rows _ rfl (.tmp 78) (.tmp 80) 25 rfl (w.heap.size + 2) 29 2 n j (cellS sS sE) i29 HA.out.2.1 Yba.underlying25 h29 s29 hlt ⟨w3.heap.size, 0, none⟩ 1 rfl rfl HA.out.2.2.1 HA.out.2.2.2 ?_; intro wb hrb hgb hzb; clear hzb)
              | (at_builtin; refine wpList_append_rows _ rfl (.tmp 82) (.tmp 84) 26 rfl (w.heap.size + 3) 33 1 n j (cellM mk') i33 ((HI3.out.mid HA.out.1 hgb).of_block (Below.heap_alloc _ _ _ (HI3.out.mid HA.out.1 hgb).lt)) Yba.underlying26 h33 s33 hlt ⟨wb.heap.size, 0, none⟩ 1 rfl rfl (HB.out.1 wb) HB.out.2 ?_; intro wd hrd hgd hzd; clear hzd))
            go_roundw
            case rel => exact ⟨j + 1, d + 1, by omega, by go_num, rfl, rfl, by go_num, f', mk', by have := HI3.out.push HA.out.1 hgb hrb ((Below.refl _ _).alloc (Nat.le_refl _) _) hgd hrd; rw [HD.out] at this; exact this⟩
            case measure => simp [intOf]; omega
    · have ekn : k = n := by omega
      subst ekn
      have cI : wr.cell? ⟨w.heap.size + 1, 2, none⟩ = some (.map (some w.heap.size)) := cell_of_row _ _ _ _ _ _ hI.inbox
      have hlen := hI.map.len Yba.underlying42 3
      have hbel := hI.below
      clear hI
      go_wp2
      go_ret
      exact ⟨rfl, hbel⟩
end Go.Proofs.Ybulkfue
