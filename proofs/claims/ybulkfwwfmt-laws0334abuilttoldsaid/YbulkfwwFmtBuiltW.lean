/-
  LawS0334ABuilt: the walk.
-/
import Derived.Test.YbulkfwwFmtBase
import Derived.Test.YbulkfwwFmtRow
import Derived.Deep.QuietTactic
import Derived.BigQuiet
import Derived.Deep.RegionWith
import Derived.Deep.DeepCutAuto
namespace Go.Proofs.YbulkfwwFmt
open Go.RowKit Go.Extern.Stop Go.Stop Go.Extern

theorem Ybaf.info5 : (Ybaf.prog.info? 5).map (fun i => (i.zero, i.size, i.bytes)) = some (some (.int .u8 0), 1, 1) := by kernel_rfl
theorem make26 (n : Nat) (hn : n ≤ 40) (w : World) : (Instr.makeSlice 26 (.int .i64 0) (.int .i64 (n + 1))).run Ybaf.prog w = .ok (.slice (some ⟨w.heap.size, 0, none⟩) 0 (n + 1)) (w.alloc (.cells (madeCells #[.int .u8 0] ((n + 1) * 1)) 5)) := by
  obtain ⟨i, hi, hz, hs, hb⟩ := info_parts Ybaf.info5
  have := run_make (P := Ybaf.prog) w 26 5 i _ Ybaf.underlying26 hi hz .i64 .i64 0 (n + 1) (by omega) (by omega) (by rw [hb]; omega) (by omega)
  rw [hs] at this
  have e : ((n : Int) + 1).toNat = n + 1 := by omega
  rw [e] at this
  simpa [Value.cells] using this

/-- The alphabet and the bad bytes. -/
def tbl : ByteArray := ⟨#[97, 98, 99, 100, 101, 102, 103, 104, 105, 106, 107, 108, 109, 110, 111, 112, 113, 114, 115, 116, 117, 118, 119, 120, 121, 122, 48, 49, 50, 51, 52, 53, 54, 55, 56, 57, 45]⟩
def badT : ByteArray := ⟨#[65, 95, 90, 46, 32, 47, 58, 128, 0]⟩

/-- The byte that raw's byte x gives. -/
def ab (x : Int) : UInt8 := tbl.data.toList.getD (x % 37).toNat 0
def cellB (Z : Nat → Int) (j : Nat) : Value := .int .u8 (ab (Z j)).toNat

theorem ab_get (x : Int) (h : (x % 37).toNat < (⟨#[97, 98, 99, 100, 101, 102, 103, 104, 105, 106, 107, 108, 109, 110, 111, 112, 113, 114, 115, 116, 117, 118, 119, 120, 121, 122, 48, 49, 50, 51, 52, 53, 54, 55, 56, 57, 45]⟩ : ByteArray).size) : (⟨#[97, 98, 99, 100, 101, 102, 103, 104, 105, 106, 107, 108, 109, 110, 111, 112, 113, 114, 115, 116, 117, 118, 119, 120, 121, 122, 48, 49, 50, 51, 52, 53, 54, 55, 56, 57, 45]⟩ : ByteArray)[(x % 37).toNat]'h = ab x := by
  simp [ab, tbl, ByteArray.getElem_eq_getElem_data, List.getD_eq_getElem?_getD]
  rw [List.getElem?_eq_getElem (by simp; omega)]
  simp

theorem ab_ok : ∀ i, i < 37 → alB (tbl.data.toList.getD i 0) = true := by decide
theorem ab_al (x : Int) : alB (ab x) = true := ab_ok _ (by omega)

theorem new_cells (w : World) (C : Array Value) (t : TypeId) (i : Nat) : (w.alloc (.cells C t)).cell? ((⟨w.heap.size, 0, none⟩ : Addr).add i) = C[i]? := by
  rw [WideShapes.add_plain, Nat.zero_add]
  exact cell_of_row _ _ _ _ _ _ (heap_alloc_new w _)

/-- The string of n bytes. -/
def strOfN (g : Nat → UInt8) (n : Nat) : ByteArray := ⟨((List.range n).map g).toArray⟩

theorem foldl_push (ns : List Int) : ∀ s : ByteArray, ns.foldl (fun r n => r.push (UInt8.ofNat n.toNat)) s = ⟨(s.data.toList ++ ns.map fun n => UInt8.ofNat n.toNat).toArray⟩ := by
  induction ns with
  | nil => intro s; simp
  | cons n ns ih =>
    intro s
    rw [List.foldl_cons, ih]
    simp [ByteArray.push]

/-- 'string(b)': n bytes in memory. -/
theorem run_str (w : World) (a : Addr) (g : Nat → UInt8) (n cap : Nat) (h : ∀ j, j < n → w.cell? (a.add j) = some (.int .u8 (g j).toNat)) :
    (convert 26 9 (.slice (some a) n cap)).run Ybaf.prog w = .ok (.string (strOfN g n)) w := by
  rw [run_convert_bytes_string w 26 9 5 (some a) n cap Ybaf.underlying26 Ybaf.underlying5 Ybaf.underlying9]
  have hl := run_loadCells_list (P := Ybaf.prog) w a (((List.range n).map fun j => ((g j).toNat : Int)).map (Value.int .u8)) (fun j v hv => by
    have hj : j < n := by have := (List.getElem?_eq_some_iff.1 hv).1; simpa using this
    simp [hj] at hv
    rw [← hv]
    exact h j hj)
  simp only [List.length_map, List.length_range] at hl
  rw [run_bytesToString w a n cap _ hl, foldl_push]
  congr 2
  simp [strOfN, Function.comp_def]

/-- The bad byte that sel gives. -/
def bd (x : Int) : UInt8 := badT.data.toList.getD (x % 9).toNat 0
theorem bd_get (x : Int) (h : (x % 9).toNat < (⟨#[65, 95, 90, 46, 32, 47, 58, 128, 0]⟩ : ByteArray).size) : (⟨#[65, 95, 90, 46, 32, 47, 58, 128, 0]⟩ : ByteArray)[(x % 9).toNat]'h = bd x := by
  simp [bd, badT, ByteArray.getElem_eq_getElem_data, List.getD_eq_getElem?_getD]
  rw [List.getElem?_eq_getElem (by simp; omega)]
  simp
theorem bd_bad : ∀ i, i < 9 → alB (badT.data.toList.getD i 0) = false := by decide
theorem bd_al (x : Int) : alB (bd x) = false := bd_bad _ (by omega)

theorem size_strOfN (g : Nat → UInt8) (n : Nat) : (strOfN g n).size = n := by simp [strOfN, ByteArray.size]
theorem ok_strOfN (g : Nat → UInt8) (n : Nat) (h : ∀ j, alB (g j) = true) : okB (strOfN g n) = (decide (1 ≤ n) && decide (n ≤ 32)) := by
  have : (strOfN g n).data.toList.all alB = true := by simp [strOfN, h]
  simp only [okB, this, size_strOfN, Bool.true_and]
theorem bad_mid (a b : ByteArray) (x : UInt8) (h : alB x = false) : okB (a ++ ⟨#[x]⟩ ++ b) = false := by
  have : (a ++ ⟨#[x]⟩ ++ b).data.toList.all alB = false := by
    simp [ByteArray.data_append, h]
  simp only [okB, this, Bool.false_and]

/-- 'want'. -/
def wantB (k : Nat) : Bool := decide (1 ≤ k) && decide (k ≤ 32)

set_option maxRecDepth 100000 in
set_option maxHeartbeats 2000000 in
theorem built_any (F : Interp) (a : Option Addr) (b off len c : Nat) (Z : Nat → Int) (pos sel : Int) (w : World) (hF : F.answers w.tape) (hl : len ≤ 1024) (hA : 0 < len → a = some ⟨b, off, none⟩) (hc : ∀ i, i < len → w.cell? ⟨b, off + i, none⟩ = some (.int .u8 (Z i))) (hZ : ∀ i, 0 ≤ Z i ∧ Z i ≤ 255)
    (hp : 0 ≤ pos ∧ pos ≤ 255) (hse : 0 ≤ sel ∧ sel ≤ 255) :
    Calls Ybaf.prog 4 #[.slice a len c, .int .u8 pos, .int .u8 sel] w fun e w' => e = .returned (.bool true) ∧ Below w.heap.size w w' := by
  obtain ⟨i5, h5, _, s5, _⟩ := info_parts Ybaf.info5
  have HF : Hid (F.answers w.tape) := hF
  have HC : Hid ((0 < len → a = some ⟨b, off, none⟩) ∧ ∀ i, i < len → w.cell? ⟨b, off + i, none⟩ = some (.int .u8 (Z i))) := ⟨hA, hc⟩
  clear hF hc hA
  go_enter Ybaf.func4, Ybaf.ntmps4
  go_upto_if 21 with (fail)
  go_cut [7] (fun nv wc => w = wc ∧ ∃ n : Nat, nv = .int .i64 n ∧ n ≤ 40 ∧ n ≤ len)
  case first =>
    by_cases h40 : 40 < len
    · go_wp2
      go_meet
      case rel => exact ⟨rfl, 40, rfl, by omega, by omega⟩
    · go_wp2
      go_meet
      case rel => exact ⟨rfl, len, rfl, by omega, Nat.le_refl _⟩
  case rest =>
    obtain ⟨rfl, n, rfl, hn, hnl⟩ := hcut
    have hmk := make26 n hn
    go_wp2
    clear hmk
    go_loopw [8, 9] (fun bv iv wr => ∃ k : Nat, k ≤ n ∧ iv = .int .i64 k ∧ bv = .slice (some ⟨w.heap.size, 0, none⟩) k (n + 1) ∧ Below w.heap.size w wr ∧ rowsAt wr w.heap.size 5 1 (n + 1) k (cellB Z)) (fun _ i _ => n - (intOf i).toNat)
    case atStart => exact ⟨0, Nat.zero_le _, rfl, rfl, (Below.refl _ _).alloc (Nat.le_refl _) _, by have := rowsAt_made w #[.int .u8 0] 5 1 (n + 1) (cellB Z); rw [Nat.mul_one] at this; exact this⟩
    case round =>
      obtain ⟨k, hk, rfl, rfl, hb, hr⟩ := hrel
      by_cases hlt : k < n
      · have ea := HC.out.1 (by omega)
        subst ea
        have hcb := HC.out.2 k (by omega)
        have g0 : wr.cell? ⟨b, off + k, none⟩ = some (.int .u8 (Z k)) := (hb.cell (block_lt_of_cell hcb)).trans hcb
        have hz0 := (hZ k).1
        have hz1 := (hZ k).2
        have hk0 : (0 : Int) ≤ (k : Int) := by omega
        have hk1 : (k : Int) < (len : Int) := by omega
        have HR : Hid (Below w.heap.size w wr ∧ rowsAt wr w.heap.size 5 1 (n + 1) k (cellB Z)) := ⟨hb, hr⟩
        clear hZ hcb hb hr
        go_wp2_with (at_builtin; refine wpList_append_rows _ rfl (.tmp 30) (.tmp 38) 26 rfl w.heap.size 5 1 (n + 1) k (cellB Z) i5 (HR.out.2.of_block (Below.heap_alloc _ _ _ HR.out.2.lt)) Ybaf.underlying26 h5 s5 (by omega) ⟨wr.heap.size, 0, none⟩ 1 rfl rfl ?ha (fun _ _ => rfl) ?_)
        case ha =>
          intro j hj
          match j, hj with
          | 0, _ => rw [new_cells]; simp [cellB, ab_get]
        · intro wb hrb hgb hzb
          have HB : Hid (Below w.heap.size w wb ∧ rowsAt wb w.heap.size 5 1 (n + 1) (k + 1) (cellB Z)) := ⟨(HR.out.1.alloc HR.out.1.size _).grown hgb (Nat.le_trans HR.out.1.size (by simp)) (fun q hq => by cases hq; exact Nat.le_refl _), hrb⟩
          clear hrb hgb hzb
          go_wp2
          go_roundw
          case rel => exact ⟨k + 1, by omega, by go_num, rfl, HB.out.1, HB.out.2⟩
          case measure => simp [intOf]; omega
      · have ek : k = n := by omega
        subst ek
        have hst := run_str wr ⟨w.heap.size, 0, none⟩ (fun j => ab (Z j)) k (k + 1) (fun j hj => by rw [WideShapes.add_plain, Nat.zero_add]; exact hr.cellAt (by omega))
        obtain ⟨S, hS⟩ : ∃ S, S = strOfN (fun j => ab (Z j)) k := ⟨_, rfl⟩
        rw [← hS] at hst
        have hSz : S.size = k := by rw [hS]; exact size_strOfN _ _
        have hSo : okB S = wantB k := by rw [hS]; exact ok_strOfN _ _ (fun j => ab_al _)
        have HS : Hid (S.size = k ∧ okB S = wantB k ∧ Below w.heap.size w wr) := ⟨hSz, hSo, hb⟩
        clear hS hb hr hZ hSz hSo
        go_upto_region 12 with (fail)
        go_cut [11] (fun t wc => t = .bool (wantB k) ∧ wr = wc)
        case first =>
          by_cases h1 : 1 ≤ k
          · by_cases h2 : k ≤ 32
            · have HW : Hid (wantB k = true) := by show _ = _; simp [wantB, h1, h2]
              have h32 : decide ((k : Int) ≤ 32) = true := decide_eq_true (by omega)
              go_wp2
              go_meet
              case rel => exact ⟨by rw [HW.out], rfl⟩
            · have HW : Hid (wantB k = false) := by show _ = _; simp [wantB, h2]
              have h32 : decide ((k : Int) ≤ 32) = false := decide_eq_false (by omega)
              go_wp2
              go_meet
              case rel => exact ⟨by rw [HW.out], rfl⟩
          · have HW : Hid (wantB k = false) := by show _ = _; simp [wantB, h1]
            go_wp2
            go_meet
            case rel => exact ⟨by rw [HW.out], rfl⟩
        case rest =>
          obtain ⟨rfl, rfl⟩ := hcut
          go_upto_region 13 with (fail)
          go_cut [11, 52] (fun _ t wc => t = .bool false ∧ Below w.heap.size w wc)
          case first =>
            cases hw : wantB k with
            | true =>
              have hV := validate_ok S wr (by rw [HS.out.2.1, hw])
              clear hw
              go_wp2_with fail
              refine hV.mono ?_
              rintro e w' ⟨rfl, hw'⟩
              have hbel : Below w.heap.size w w' := by rw [hw']; exact HS.out.2.2
              clear hw'
              go_wp2
              go_meet
              case rel => exact ⟨rfl, hbel⟩
            | false =>
              have hV := validate_bad F S wr (by rw [HS.out.2.2.tape]; exact HF.out) (by rw [HS.out.1]; unfold maxLen; omega) (by rw [HS.out.2.1, hw])
              clear hw
              go_wp2_with fail
              refine hV.mono ?_
              rintro e w' ⟨⟨x, rfl⟩, hb'⟩
              have hbel : Below w.heap.size w w' := HS.out.2.2.trans (hb'.mono HS.out.2.2.size)
              clear hb'
              go_wp2
              go_meet
              case rel => exact ⟨rfl, hbel⟩
          case rest =>
            obtain ⟨rfl, hbel⟩ := hcut
            have HBL : Hid (Below w.heap.size w wc ∧ S.size = k) := ⟨hbel, HS.out.1⟩
            clear hbel hst
            have hbg := fun h => bd_get sel h
            obtain ⟨kk, hkk, hkk1⟩ : ∃ kk : Nat, pos % ((k : Int) + 1) = (kk : Int) ∧ kk ≤ k := by
              have h0 := Int.emod_nonneg pos (show ((k : Int) + 1) ≠ 0 by omega)
              have h1 := Int.emod_lt_of_pos pos (show (0 : Int) < (k : Int) + 1 by omega)
              exact ⟨(pos % ((k : Int) + 1)).toNat, by omega, by omega⟩
            have hSz : S.size = k := HBL.out.2
            obtain ⟨C1, hC1⟩ : ∃ C1, C1 = strOfN (fun _ => bd sel) 1 := ⟨_, rfl⟩
            have hC1z : C1.size = 1 := by rw [hC1]; exact size_strOfN _ _
            have hcv : (convert 26 9 (.slice (some ⟨wc.heap.size, 0, none⟩) 1 1)).run Ybaf.prog (wc.alloc (.cells #[.int .u8 (bd sel).toNat] 5)).drew = .ok (.string C1) (wc.alloc (.cells #[.int .u8 (bd sel).toNat] 5)).drew := by
              rw [hC1]
              exact run_str _ ⟨wc.heap.size, 0, none⟩ (fun _ => bd sel) 1 1 (fun j hj => by
                match j, hj with
                | 0, _ => exact (new_cells wc _ _ 0).trans rfl)
            have HC1 : Hid (C1 = ⟨#[bd sel]⟩) := by show _ = _; rw [hC1]; rfl
            clear hC1
            go_wp2_with fail
            go_region
            go_wp2_with fail
            have hbad : okB (S.extract 0 kk ++ C1 ++ S.extract kk k) = false := by rw [HC1.out]; exact bad_mid _ _ _ (bd_al sel)
            have hsz : (S.extract 0 kk ++ C1 ++ S.extract kk k).size ≤ maxLen := by
              simp only [ByteArray.size_append, ByteArray.size_extract, hSz, hC1z]
              unfold maxLen
              omega
            refine (validate_bad F _ _ (by show F.answers wc.tape; rw [HBL.out.1.tape]; exact HF.out) hsz hbad).mono ?_
            rintro e w' ⟨⟨x, rfl⟩, hb'⟩
            have hend : Below w.heap.size w w' := ((HBL.out.1.alloc HBL.out.1.size _).drew).trans (hb'.mono (Nat.le_trans HBL.out.1.size (by simp)))
            clear hb' hbad hsz
            go_wp2
            go_ret
            exact ⟨rfl, hend⟩
end Go.Proofs.YbulkfwwFmt
