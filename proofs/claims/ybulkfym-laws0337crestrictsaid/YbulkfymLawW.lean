/-
  LawS0337CRestrict: the walk.
-/
import Derived.Test.YbulkfymG
import Derived.Test.YbulkfymEq
import Derived.Test.YbulkfymInv
namespace Go.Proofs.Ybulkfym
open Go.RowKit
open Go.Maps (Keyed)

/-- 'make([]dot, 0, n)', 'make([]keyedDot, 0, n)': for every world. -/
theorem make31 (n : Nat) (hn : n ≤ 1024) (w : World) : (Instr.makeSlice 31 (.int .i64 0) (.int .i64 n)).run Yba.prog w = .ok (.slice (some ⟨w.heap.size, 0, none⟩) 0 n) (w.alloc (.cells (madeCells #[.string ByteArray.empty, .int .u64 0] (n * 2)) 37)) := by
  obtain ⟨i, hi, hz, hs, hb⟩ := info_parts Yba.info37
  have := run_make (P := Yba.prog) w 31 37 i _ Yba.underlying31 hi hz .i64 .i64 0 n (by omega) (by omega) (by rw [hb]; omega) (by omega)
  rw [hs] at this
  simpa [Value.cells] using this
theorem make38 (n : Nat) (hn : n ≤ 1024) (w : World) : (Instr.makeSlice 38 (.int .i64 0) (.int .i64 n)).run Yba.prog w = .ok (.slice (some ⟨w.heap.size, 0, none⟩) 0 n) (w.alloc (.cells (madeCells #[.string ByteArray.empty, .int .u64 0, .string ByteArray.empty, .int .u8 0] (n * 4)) 45)) := by
  obtain ⟨i, hi, hz, hs, hb⟩ := info_parts Yba.info45
  have := run_make (P := Yba.prog) w 38 45 i _ Yba.underlying38 hi hz .i64 .i64 0 n (by omega) (by omega) (by rw [hb]; omega) (by omega)
  rw [hs] at this
  simpa [Value.cells] using this

/-- What stands when the counts are laid: the tables, the counts, the context. -/
structure Tables (w : World) (vf : Nat → Nat) (V : ByteArray → Nat) (W : World) : Prop where
  t1 : blockIs W (w.heap.size + 1) #[.string (rep 0), .string (rep 1), .string (rep 2)] 26
  t2 : blockIs W (w.heap.size + 2) #[.string (nam 0), .string (nam 1), .string (nam 2)] 27
  t3 : blockIs W (w.heap.size + 3) #[cv vf 3 0, cv vf 3 1, cv vf 3 2] 29
  t4 : ctxIs W (w.heap.size + 4) V
  t5 : blockIs W (w.heap.size + 5) #[.map (some (w.heap.size + 4)), .slice none 0 0] 33
  below : Below w.heap.size w W
  vv : ∀ j, j < 3 → V (rep j) = vf j % 8
theorem Tables.later {w : World} {vf : Nat → Nat} {V : ByteArray → Nat} {W W' : World} {B : Nat} (h : Tables w vf V W) (hb : Below B W W') (hB : w.heap.size + 6 ≤ B) : Tables w vf V W' :=
  ⟨h.t1.of_block (hb.block _ (by omega)), h.t2.of_block (hb.block _ (by omega)), h.t3.of_block (hb.block _ (by omega)), h.t4.of_block (hb.block _ (by omega)), h.t5.of_block (hb.block _ (by omega)), h.below.trans (hb.mono (by omega)), h.vv⟩
theorem Tables.rep_ {w : World} {vf : Nat → Nat} {V : ByteArray → Nat} {W : World} (h : Tables w vf V W) {i : Nat} (hi : i < 3) : W.cell? ⟨w.heap.size + 1, i, none⟩ = some (.string (rep i)) := by
  have : i = 0 ∨ i = 1 ∨ i = 2 := by omega
  rw [h.t1.cellAt]
  rcases this with rfl | rfl | rfl <;> rfl
theorem Tables.nam_ {w : World} {vf : Nat → Nat} {V : ByteArray → Nat} {W : World} (h : Tables w vf V W) {i : Nat} (hi : i < 3) : W.cell? ⟨w.heap.size + 2, i, none⟩ = some (.string (nam i)) := by
  have : i = 0 ∨ i = 1 ∨ i = 2 := by omega
  rw [h.t2.cellAt]
  rcases this with rfl | rfl | rfl <;> rfl
theorem Tables.cnt_ {w : World} {vf : Nat → Nat} {V : ByteArray → Nat} {W : World} (h : Tables w vf V W) {i : Nat} (hi : i < 3) : W.cell? ⟨w.heap.size + 3, i, none⟩ = some (.int .u64 (V (rep i))) := by
  have : i = 0 ∨ i = 1 ∨ i = 2 := by omega
  rw [h.t3.cellAt, h.vv i hi]
  rcases this with rfl | rfl | rfl <;> rfl
theorem tables_of {w W4 wA : World} {vf : Nat → Nat} (h : Inv1 w.heap.size W4 vf 3 wA) (B1 : blockIs W4 (w.heap.size + 1) #[.string (rep 0), .string (rep 1), .string (rep 2)] 26) (B2 : blockIs W4 (w.heap.size + 2) #[.string (nam 0), .string (nam 1), .string (nam 2)] 27) (hb : Below w.heap.size w W4) :
    ∃ V, Tables w vf V (wA.alloc (.cells #[.map (some (w.heap.size + 4)), .slice none 0 0] 33)) := by
  obtain ⟨V, h1, h2⟩ := h.ctx
  have hs := h.size
  refine ⟨V, (B1.of_block (h.below.block _ (by omega))).alloc _, (B2.of_block (h.below.block _ (by omega))).alloc _, h.cnt.alloc _, h1.is.of_block (heap_alloc_old _ _ (by omega)), blockIs_newAt rfl hs.symm, (hb.trans (h.below.mono (by omega))).alloc (by omega) _, fun j hj => by rw [h2 j hj]; simp [hj]⟩

theorem hasE.heap {q m : Nat} {cells : El → List Value} {w w' : World} {v : Value} {L : List El} (h : hasE q m cells w v L) (e : w'.heap = w.heap) : hasE q m cells w' v L :=
  h.of_blocks (by rw [e]; exact Nat.le_refl _) fun g _ hq => ⟨hq, by rw [e]⟩
theorem equal_dot' {q1 q2 : Nat} {L : List El} {v1 v2 : Value} {w : World} (hn : L.length ≤ 1024) (h1 : hasE q1 2 dcells w v1 L) (h2 : hasE q2 2 dcells w v2 L) :
    ∀ w3 : World, w3.heap = w.heap → Calls Yba.prog 6 #[v1, v2] w3 fun e w' => e = .returned (.bool true) ∧ ∃ m, w' = w3.drewN m := fun w3 e => equal_dot q1 q2 L v1 v2 w3 hn (h1.heap e) (h2.heap e)
theorem equal_key' {q1 q2 : Nat} {L : List El} {v1 v2 : Value} {w : World} (hn : L.length ≤ 1024) (h1 : hasE q1 4 kcells w v1 L) (h2 : hasE q2 4 kcells w v2 L) :
    ∀ w3 : World, w3.heap = w.heap → Calls Yba.prog 5 #[v1, v2] w3 fun e w' => e = .returned (.bool true) ∧ ∃ m, w' = w3.drewN m := fun w3 e => equal_key q1 q2 L v1 v2 w3 hn (h1.heap e) (h2.heap e)

theorem assert_50 (a : Addr) (w : World) : (Instr.typeAssert (.iface 50 (.pointer (some a))) 54 50 true).run Yba.prog w = .ok (.tuple #[.pointer (some a), .bool true]) w := by kernel_rfl

/-- The world in which restrict is called: the record, the stand-in, the field. -/
def tailW (o : Bool) (wC : World) (B n g n' : Nat) : World :=
  ((wC.alloc (.cells #[.bool o, .int .i64 0, .int .i64 0, .slice none 0 0, .bool false] 48)).alloc (.cells #[.bool false, .bool false, .pointer (some ⟨wC.heap.size, 0, none⟩)] 52)).alloc
    (.cells #[.slice (some ⟨B + 6, 0, none⟩) n n, .iface 50 (.pointer (some ⟨wC.heap.size + 1, 0, none⟩)), .slice (some ⟨g, 0, none⟩) n' n'] 56)
theorem tailW_below (o : Bool) (wC : World) (B n g n' : Nat) : Below wC.heap.size wC (tailW o wC B n g n') :=
  (((Below.refl _ _).alloc (Nat.le_refl _) _).alloc (by simp) _).alloc (by simp; omega) _
theorem listD_small' {LD : List El} {n : Nat} {R C : Nat → Nat} (h : LD = listD n R C) : ∀ x ∈ LD, x.1.size ≤ maxLen := by rw [h]; exact listD_small n R C
theorem listK_small' {LK : List El} {n : Nat} {R C N : Nat → Nat} (h : LK = listK n R C N) : ∀ x ∈ LK, x.1.size ≤ maxLen := by rw [h]; exact listK_small n R C N
theorem tail_pre {w wC : World} {vf : Nat → Nat} {V : ByteArray → Nat} {LD LK : List El} {g : Nat} (o : Bool) (T : Tables w vf V wC) (hD : hasE wC.heap.size 2 dcells wC (.slice (some ⟨w.heap.size + 6, 0, none⟩) LD.length LD.length) LD)
    (hK : hasE wC.heap.size 4 kcells wC (.slice (some ⟨g, 0, none⟩) LK.length LK.length) LK) (sD : ∀ x ∈ LD, x.1.size ≤ maxLen) (sK : ∀ x ∈ LK, x.1.size ≤ maxLen) (nD : LD.length ≤ 1024) (nK : LK.length ≤ 1024) :
    FPre (w.heap.size + 4) V LD LK (wC.heap.size + 2) (wC.heap.size + 1) wC.heap.size o (some ⟨w.heap.size + 6, 0, none⟩) LD.length (some ⟨g, 0, none⟩) LK.length (tailW o wC w.heap.size LD.length g LK.length) := by
  have hb := tailW_below o wC w.heap.size LD.length g LK.length
  refine ⟨T.t4.below hb T.t4.lt, sD, sK, nD, nK, hD.below hb, hK.below hb, blockIs_newAt rfl (by simp), (blockIs_newAt rfl (by simp)).alloc _, ((blockIs_new _ _ _).alloc _).alloc _, by omega, ?_⟩
  have := T.t4.lt
  omega
theorem tail_end {w wC w' : World} {o : Bool} {n g n' : Nat} {KD KK : List El} {v v' : Value} (hb : Below w.heap.size w wC) (hs : w.heap.size ≤ wC.heap.size) (hD : hasE wC.heap.size 2 dcells wC v KD) (hK : hasE wC.heap.size 4 kcells wC v' KK)
    (hg : (tailW o wC w.heap.size n g n').grownBy w' (some wC.heap.size)) : Below w.heap.size w w' ∧ hasE wC.heap.size 2 dcells w' v KD ∧ hasE wC.heap.size 4 kcells w' v' KK := by
  have ht := tailW_below o wC w.heap.size n g n'
  have hts := ht.size
  refine ⟨(hb.trans (ht.mono hs)).grown hg (by omega) (fun k e => by cases e; exact hs), (hD.below ht).grown hg, (hK.below ht).grown hg⟩

set_option maxRecDepth 100000 in
set_option maxHeartbeats 8000000 in
theorem law_short (a : Option Addr) (n cp b off : Nat) (R C : Nat → Nat) (a' : Option Addr) (n' cp' b' off' : Nat) (R' C' N' : Nat → Nat) (vf : Nat → Nat) (al o : Bool) (w : World) (hn : n ≤ 1024) (hn' : n' ≤ 1024) (hv0 : vf 0 ≤ 255) (hv1 : vf 1 ≤ 255) (hv2 : vf 2 ≤ 255)
    (hd : DotsIn w a n b off R C) (hk : KeysIn w a' n' b' off' R' C' N') :
    Calls Yba.prog 3 #[.slice a n cp, .slice a' n' cp', .agg #[.int .u8 (vf 0), .int .u8 (vf 1), .int .u8 (vf 2)], .bool al, .bool o] w fun e w' => e = .returned (.bool true) ∧ Below w.heap.size w w' := by
  have hmm := @run_makeMap Yba.prog
  obtain ⟨W4, hW4⟩ : ∃ W4 : World, W4 = (((((w.alloc (.cells #[.int .u8 (vf 0), .int .u8 (vf 1), .int .u8 (vf 2)] 24)).alloc (.cells #[.string ⟨#[97]⟩, .string ⟨#[98]⟩, .string ⟨#[99]⟩] 26)).alloc (.cells #[.string ⟨#[120]⟩, .string ⟨#[121]⟩, .string ⟨#[]⟩] 27)).alloc (.cells #[.int .u64 0, .int .u64 0, .int .u64 0] 29)).alloc (.map #[] 0)) := ⟨_, rfl⟩
  have HW : Hid (W4 = (((((w.alloc (.cells #[.int .u8 (vf 0), .int .u8 (vf 1), .int .u8 (vf 2)] 24)).alloc (.cells #[.string ⟨#[97]⟩, .string ⟨#[98]⟩, .string ⟨#[99]⟩] 26)).alloc (.cells #[.string ⟨#[120]⟩, .string ⟨#[121]⟩, .string ⟨#[]⟩] 27)).alloc (.cells #[.int .u64 0, .int .u64 0, .int .u64 0] 29)).alloc (.map #[] 0))) := hW4
  have HV : Hid (∀ j, j < 3 → vf j ≤ 255) := by
    intro j hj
    have : j = 0 ∨ j = 1 ∨ j = 2 := by omega
    rcases this with rfl | rfl | rfl <;> assumption
  have HD : Hid (DotsIn w a n b off R C) := hd
  have HK : Hid (KeysIn w a' n' b' off' R' C' N') := hk
  have B0 : blockIs W4 w.heap.size #[.int .u8 (vf 0), .int .u8 (vf 1), .int .u8 (vf 2)] 24 := by
    rw [hW4]; exact ((((blockIs_new w _ _).alloc _).alloc _).alloc _).alloc _
  have B1 : blockIs W4 (w.heap.size + 1) #[.string (rep 0), .string (rep 1), .string (rep 2)] 26 := by
    rw [hW4]; exact (((blockIs_newAt rfl (by simp)).alloc _).alloc _).alloc _
  have B2 : blockIs W4 (w.heap.size + 2) #[.string (nam 0), .string (nam 1), .string (nam 2)] 27 := by
    rw [hW4]; exact ((blockIs_newAt rfl (by simp)).alloc _).alloc _
  have B3 : blockIs W4 (w.heap.size + 3) #[cv vf 0 0, cv vf 0 1, cv vf 0 2] 29 := by
    rw [hW4]; exact (blockIs_newAt rfl (by simp)).alloc _
  have hctx : ctxK W4 (w.heap.size + 4) (fun _ => 0) 0 := by
    rw [hW4]
    have := ctxK_made ((((w.alloc (.cells #[.int .u8 (vf 0), .int .u8 (vf 1), .int .u8 (vf 2)] 24)).alloc (.cells #[.string ⟨#[97]⟩, .string ⟨#[98]⟩, .string ⟨#[99]⟩] 26)).alloc (.cells #[.string ⟨#[120]⟩, .string ⟨#[121]⟩, .string ⟨#[]⟩] 27)).alloc (.cells #[.int .u64 0, .int .u64 0, .int .u64 0] 29))
    simpa using this
  have HB4 : Hid (Below w.heap.size w W4) := by
    rw [hW4]
    exact (((((Below.refl _ _).alloc (Nat.le_refl _) _).alloc (by simp) _).alloc (by simp; omega) _).alloc (by simp; omega) _).alloc (by simp; omega) _
  have hI0 : Inv1 w.heap.size W4 vf 0 W4 := ⟨Below.refl _ _, by rw [hW4]; simp, B3, _, hctx, fun j _ => by simp⟩
  clear hW4 B3 hctx hv0 hv1 hv2 hd hk
  go_enter Yba.func3, Yba.ntmps3
  go_wp2
  rw [← HW.out]
  go_loopw [15] (fun i wr => ∃ k : Nat, k ≤ 3 ∧ i = .int .i64 k ∧ Inv1 w.heap.size W4 vf k wr) (fun i _ => 3 - (intOf i).toNat)
  case atStart => exact ⟨0, by omega, rfl, hI0⟩
  case round =>
    obtain ⟨k, hk3, rfl, hI⟩ := hrel
    clear hI0
    by_cases hlt : k < 3
    · have hiI : (k : Int) < 3 := by omega
      have hi0 : (0 : Int) ≤ (k : Int) := by omega
      have hk' : k = 0 ∨ k = 1 ∨ k = 2 := by omega
      have c0 : wr.cell? ⟨w.heap.size, k, none⟩ = some (.int .u8 (vf k)) := (hI.cell B0 (by omega) k).trans (by rcases hk' with rfl | rfl | rfl <;> rfl)
      have c1 : wr.cell? ⟨w.heap.size + 1, k, none⟩ = some (.string (rep k)) := (hI.cell B1 (by omega) k).trans (by rcases hk' with rfl | rfl | rfl <;> rfl)
      have c3 : wr.cell? ⟨w.heap.size + 3, k, none⟩ = some (.int .u64 0) := (hI.cnt.cellAt k).trans (by rcases hk' with rfl | rfl | rfl <;> rfl)
      have c3f : wr.frozen? ⟨w.heap.size + 3, k, none⟩ = false := hI.cnt.free k
      have hvk := HV.out k hlt
      have e8 : Int.tmod (vf k : Int) 8 = ((vf k % 8 : Nat) : Int) := by
        rw [Int.tmod_eq_emod_of_nonneg (by omega)]; omega
      have hI1 := hI.put hlt
      have c4 : (wr.setCell ⟨w.heap.size + 3, k, none⟩ (.int .u64 (vf k % 8 : Nat))).cell? ⟨w.heap.size + 3, k, none⟩ = some (.int .u64 (vf k % 8 : Nat)) := (hI1.cellAt k).trans (by rcases hk' with rfl | rfl | rfl <;> rfl)
      clear hI1 hk'
      obtain ⟨c, hc⟩ : ∃ c, c = vf k % 8 := ⟨_, rfl⟩
      have hc8 : c < 8 := by omega
      have HC : Hid (c = vf k % 8) := hc
      rw [← hc] at e8 c4
      clear hc
      by_cases hz : c = 0
      · subst hz
        go_wp2
        go_roundw
        case rel => exact ⟨k + 1, by omega, by go_num, by have := hI.zero hlt HC.out.symm; rw [← HC.out] at this; exact this⟩
        case measure => simp [intOf]; omega
      · have hp : (0 : Int) < (c : Int) := by omega
        obtain ⟨w', m1, m2⟩ := hI.pos hlt
        rw [← HC.out] at m1
        have M2 : Hid (Inv1 w.heap.size W4 vf (k + 1) w') := m2
        clear m2
        go_wp2
        go_region
        all_goals go_wp2
        all_goals
          go_roundw
          case rel => exact ⟨k + 1, by omega, by go_num, M2.out⟩
          case measure => simp [intOf]; omega
    · have hke : k = 3 := by omega
      subst hke
      clear hlt hk3
      rw [show ((3 : Nat) : Int) = 3 from rfl]
      have hm1 := make31 n hn
      have hm2 := make38 n' hn'
      have hsA : wr.heap.size = w.heap.size + 5 := hI.size
      obtain ⟨V, hT⟩ := tables_of hI B1 B2 HB4.out
      clear B0 B1 B2 HB4 HV hI HW hmm
      obtain ⟨W0, hW0⟩ : ∃ W0 : World, W0 = wr.alloc (.cells #[.map (some (w.heap.size + 4)), .slice none 0 0] 33) := ⟨_, rfl⟩
      rw [← hW0] at hT
      have hs0 : W0.heap.size = w.heap.size + 6 := by rw [hW0]; simp [hsA]
      have HW0 : Hid (W0 = wr.alloc (.cells #[.map (some (w.heap.size + 4)), .slice none 0 0] 33)) := hW0
      clear hW0
      have HT : Hid (Tables w vf V W0) := hT
      clear hT
      obtain ⟨LD, hLD⟩ : ∃ LD, LD = listD n R C := ⟨_, rfl⟩
      have hlen : LD.length = n := by rw [hLD, listD_len]
      have HLD : Hid (LD = listD n R C) := hLD
      clear hLD
      have HLen : Hid (LD.length = n) := hlen
      have hI2 : Inv2 (w.heap.size + 6) 37 2 dcells V LD W0 0 (.slice none 0 0) (W0.alloc (.cells (madeCells #[.string ByteArray.empty, .int .u64 0] (n * 2)) 37)) := by
        refine ⟨(Below.refl _ _).alloc (by omega) _, ?_, World.ownsRow_nil _ _ _ _, by simp; omega⟩
        rw [← hlen, ← hs0]
        exact rowsAt_made _ _ _ _ _ _
      clear hlen
      go_wp2
      rw [← HW0.out]
      obtain ⟨wA, hwA⟩ : ∃ wA : World, wA = wr := ⟨_, rfl⟩
      subst hwA
      obtain ⟨i37, hi37, hz37, hs37, hb37⟩ := info_parts Yba.info37
      go_loopw [17, 18, 76] (fun fd wv i wr => ∃ k : Nat, k ≤ n ∧ i = .int .i64 k ∧ fd = .slice (some ⟨w.heap.size + 6, 0, none⟩) k n ∧ Inv2 (w.heap.size + 6) 37 2 dcells V LD W0 k wv wr) (fun _ _ i _ => n - (intOf i).toNat)
      case atStart => exact ⟨0, Nat.zero_le _, rfl, rfl, hI2⟩
      case round =>
        obtain ⟨k, hkn, rfl, rfl, hJ⟩ := hrel
        clear hI2
        by_cases hlt : k < n
        · have hkL : k < LD.length := by rw [HLen.out]; exact hlt
          have HX : Hid (LD[k] = (rep (R k % 3), C k % 8, ByteArray.empty)) := by
            have e := HLD.out
            subst e
            exact listD_at hkL
          obtain rfl : a = some ⟨b, off, none⟩ := HD.out.at_ (by omega)
          have hbl := HD.out.lt (by omega)
          have T := HT.out.later hJ.below (Nat.le_refl _)
          have d0 : wr.cell? ⟨b, off + k * 2, none⟩ = some (.int .u8 (R k)) := (T.below.cell hbl).trans (HD.out.c0 k hlt)
          have d1 : wr.cell? ⟨b, off + k * 2 + 1, none⟩ = some (.int .u8 (C k)) := (T.below.cell hbl).trans (HD.out.c1 k hlt)
          have hR := HD.out.r0 k
          have hC := HD.out.r1 k
          have e3 : Int.tmod (R k : Int) 3 = ((R k % 3 : Nat) : Int) := by
            rw [Int.tmod_eq_emod_of_nonneg (by omega)]; omega
          have e8 : Int.tmod (C k : Int) 8 = ((C k % 8 : Nat) : Int) := by
            rw [Int.tmod_eq_emod_of_nonneg (by omega)]; omega
          obtain ⟨i, hi⟩ : ∃ i, i = R k % 3 := ⟨_, rfl⟩
          obtain ⟨c, hc⟩ : ∃ c, c = C k % 8 := ⟨_, rfl⟩
          have hi3 : i < 3 := by omega
          have hc8 : c < 8 := by omega
          rw [← hi, ← hc] at HX
          rw [← hi] at e3
          rw [← hc] at e8
          clear hi hc
          have hi3I : (i : Int) < 3 := by omega
          have hi0I : (0 : Int) ≤ (i : Int) := by omega
          have hkI : (k : Int) < (n : Int) := by omega
          have hk0 : (0 : Int) ≤ (k : Int) := by omega
          have hsz := hJ.size
          have r1 : ∀ o1, (wr.alloc o1).cell? ⟨w.heap.size + 1, i, none⟩ = some (.string (rep i)) := fun o1 => (((Below.refl _ wr).alloc (Nat.le_refl _) o1).cell (by show w.heap.size + 1 < _; omega)).trans (T.rep_ hi3)
          have hB1 : ∀ o1 o2 o3, Below wr.heap.size wr (((wr.alloc o1).alloc o2).alloc o3) := fun o1 o2 o3 => (((Below.refl _ _).alloc (Nat.le_refl _) o1).alloc (by simp) o2).alloc (by simp; omega) o3
          have HL : Hid (∀ o1 o2 o3, Inv2 (w.heap.size + 6) 37 2 dcells V LD W0 k u18 (((wr.alloc o1).alloc o2).alloc o3)) := fun o1 o2 o3 => hJ.later (hB1 o1 o2 o3)
          have HR : Hid (∀ o1 o2 o3, rowsAt (((wr.alloc o1).alloc o2).alloc o3) (w.heap.size + 6) 37 2 n k (cellsOf dcells LD)) := fun o1 o2 o3 => by
            have := (HL.out o1 o2 o3).row
            rw [HLen.out] at this
            exact this
          have HA1 : Hid (∀ o1 o2, ∀ j, j < 2 → (((wr.alloc o1).alloc o2).alloc (.cells #[.string (rep i), .int .u64 (c : Nat)] 37)).cell? ((⟨wr.heap.size + 2, 0, none⟩ : Addr).add j) = some (cellsOf dcells LD (k * 2 + j))) := fun o1 o2 => by
            have h := row_ha (cells := dcells) (m := 2) (fun _ => rfl) hkL HX.out.symm (new_dcells ((wr.alloc o1).alloc o2) (rep i, c, ByteArray.empty) 37)
            simpa using h
          have HA2 := row_h1 (cells := dcells) (m := 2) (fun _ => rfl) dcells_one hkL
          have cc := T.cnt_ hi3
          clear hB1
          by_cases ho : c ≤ V (rep i)
          · have hoI : (c : Int) ≤ (V (rep i) : Int) := by omega
            have hk3 : (kept V LD k).length + 1 ≤ maxLen := by have := kept_le V LD k; unfold maxLen; omega
            have hk4 : ((kept V LD k).length + 1) * 24 ≤ 140737488355328 := by have := kept_le V LD k; omega
            have hq1 : ∀ o1 o2 o3, wr.heap.size + 1 < (((wr.alloc o1).alloc o2).alloc o3).heap.size := fun _ _ _ => by simp
            have hne1 : some (wr.heap.size + 1) ≠ some (w.heap.size + 6) := by simp; omega
            have hy0 : ∀ o1 o3, (((wr.alloc o1).alloc (.cells #[.string (rep i), .int .u64 (c : Nat)] 37)).alloc o3).cell? ⟨wr.heap.size + 1, 0, none⟩ = some (.string (rep i)) := fun o1 o3 => ((blockIs_newAt (w := wr.alloc o1) rfl (by simp)).alloc o3).cellAt 0
            have hy1 : ∀ o1 o3, (((wr.alloc o1).alloc (.cells #[.string (rep i), .int .u64 (c : Nat)] 37)).alloc o3).cell? ⟨wr.heap.size + 1, 1, none⟩ = some (.int .u64 (c : Nat)) := fun o1 o3 => ((blockIs_newAt (w := wr.alloc o1) rfl (by simp)).alloc o3).cellAt 1
            go_wp2_with (first
              | (at_builtin; refine wpList_append_rows _ rfl (.tmp 93) (.tmp 95) 31 rfl (w.heap.size + 6) 37 2 n k (cellsOf dcells LD) i37 (HR.out _ _ _) Yba.underlying31 hi37 hs37 hlt ⟨wr.heap.size + 2, 0, none⟩ 1 rfl rfl (HA1.out _ _) HA2 ?_; intro wb hrb hgb hzb; clear hzb
                 have HM := (HL.out _ _ _).mid hgb
                 have q0 : wb.cell? ⟨wr.heap.size + 1, 0, none⟩ = some (.string (rep i)) := (World.cell?_of_block (a := ⟨wr.heap.size + 1, 0, none⟩) (hgb.block (wr.heap.size + 1) (hq1 _ _ _) hne1)).trans (hy0 _ _)
                 have q1 : wb.cell? ⟨wr.heap.size + 1, 1, none⟩ = some (.int .u64 (c : Nat)) := (World.cell?_of_block (a := ⟨wr.heap.size + 1, 1, none⟩) (hgb.block (wr.heap.size + 1) (hq1 _ _ _) hne1)).trans (hy1 _ _)
                 have cb := (HT.out.later HM.1 (Nat.le_refl _)).cnt_ hi3
                 have hbase : ∀ o, w.heap.size + 6 + 1 ≤ (wb.alloc o).heap.size := fun o => Nat.le_trans HM.2.2 (by simp))
              | (at_builtin; refine wpList_append_own _ rfl (.tmp 102) (.tmp 104) 31 rfl (w.heap.size + 6 + 1) 37 i37 (.agg #[.string ByteArray.empty, .int .u64 0]) 2 24 Yba.underlying31 hi37 hz37 hs37 hb37 rfl (by decide) _ _ _ rfl (HM.2.1.alloc _) ⟨wb.heap.size, 0, none⟩ 1 1 (dcells (rep i, c, ByteArray.empty)) rfl rfl (new_dcells _ _ _) (dcells_one _) hk3 hk4 (hbase _) ?_; intro v' wd hown3 hg3 hnn; clear hnn))
            go_roundw
            case rel =>
              have hx := HX.out
              rw [← HLen.out] at hrb
              refine ⟨k + 1, by omega, by go_num, rfl, (HL.out _ _ _).hit hkL (by rw [hx]; simpa [obs] using ho) hgb hrb ((Below.refl _ _).alloc (Nat.le_refl _) _) hg3 (by rw [hx]; exact hown3)⟩
            case measure => simp [intOf]; omega
          · have hoI : ¬ (c : Int) ≤ (V (rep i) : Int) := by omega
            go_wp2_with (first
              | (at_builtin; refine wpList_append_rows _ rfl (.tmp 93) (.tmp 95) 31 rfl (w.heap.size + 6) 37 2 n k (cellsOf dcells LD) i37 (HR.out _ _ _) Yba.underlying31 hi37 hs37 hlt ⟨wr.heap.size + 2, 0, none⟩ 1 rfl rfl (HA1.out _ _) HA2 ?_; intro wb hrb hgb hzb; clear hzb
                 have HM := (HL.out _ _ _).mid hgb
                 have cb := (HT.out.later HM.1 (Nat.le_refl _)).cnt_ hi3)
              | fail)
            go_roundw
            case rel =>
              have hx := HX.out
              rw [← HLen.out] at hrb
              exact ⟨k + 1, by omega, by go_num, rfl, (HL.out _ _ _).miss hkL (by rw [hx]; simpa [obs] using ho) hgb hrb⟩
            case measure => simp [intOf]; omega
        · obtain rfl : k = n := by omega
          have hge : ¬ (k : Int) < (k : Int) := by omega
          obtain ⟨wB, hwB⟩ : ∃ wB : World, wB = wr := ⟨_, rfl⟩
          subst hwB
          have hsB := hJ.size
          have hgB : w.heap.size + 6 ≤ wB.heap.size := by omega
          have T := HT.out.later hJ.below (Nat.le_refl _)
          have HTB : Hid (Tables w vf V wB) := T
          have hJ' : Inv2 (w.heap.size + 6) 37 2 dcells V LD W0 LD.length u18 wB := by rw [HLen.out]; exact hJ
          obtain ⟨cD, hD, hcD⟩ := hJ'.hasAll (cells := dcells) (m := 2) (fun _ => rfl) wB.heap.size (show w.heap.size + 6 < wB.heap.size by omega)
          have hW := (hJ'.hasKept (cells := dcells) (m := 2) (fun _ => rfl)).other (Nat.le_refl _)
          rw [hcD] at hD
          have HDB : Hid (hasE wB.heap.size 2 dcells wB (.slice (some ⟨w.heap.size + 6, 0, none⟩) LD.length LD.length) LD) := hD
          obtain ⟨KD, hKD⟩ : ∃ KD, KD = LD.filter (obs V) := ⟨_, rfl⟩
          rw [← hKD] at hW
          obtain ⟨wao, wac, rfl⟩ := hW.form (n := KD.length) rfl
          have HWB : Hid (hasE wB.heap.size 2 dcells wB (.slice wao KD.length wac) KD) := hW
          have HKD : Hid (KD = LD.filter (obs V)) := hKD
          clear hD hcD cD hJ' hJ hKD hW T HT HW0 hlt hkn hm1
          obtain ⟨LK, hLK⟩ : ∃ LK, LK = listK n' R' C' N' := ⟨_, rfl⟩
          have hlen : LK.length = n' := by rw [hLK, listK_len]
          have HLK : Hid (LK = listK n' R' C' N') := hLK
          clear hLK
          have HLenK : Hid (LK.length = n') := hlen
          have hI3 : Inv2 wB.heap.size 45 4 kcells V LK wB 0 (.slice none 0 0) (wB.alloc (.cells (madeCells #[.string ByteArray.empty, .int .u64 0, .string ByteArray.empty, .int .u8 0] (n' * 4)) 45)) := by
            refine ⟨(Below.refl _ _).alloc (Nat.le_refl _) _, ?_, World.ownsRow_nil _ _ _ _, by simp⟩
            rw [← hlen]
            exact rowsAt_made _ _ _ _ _ _
          clear hlen
          go_wp2
          obtain ⟨i45, hi45, hz45, hs45, hb45⟩ := info_parts Yba.info45
          go_loopw [24, 25, 112] (fun fk wv i wr => ∃ k : Nat, k ≤ n' ∧ i = .int .i64 k ∧ fk = .slice (some ⟨wB.heap.size, 0, none⟩) k n' ∧ Inv2 wB.heap.size 45 4 kcells V LK wB k wv wr) (fun _ _ i _ => n' - (intOf i).toNat)
          case atStart => exact ⟨0, Nat.zero_le _, rfl, rfl, hI3⟩
          case round =>
            obtain ⟨k', hkn, rfl, rfl, hJ⟩ := hrel
            clear hI3
            by_cases hlt : k' < n'
            · have hkL : k' < LK.length := by rw [HLenK.out]; exact hlt
              have HX : Hid (LK[k'] = (rep (R' k' % 3), C' k' % 8, nam (N' k' % 3))) := by
                have e := HLK.out
                subst e
                exact listK_at hkL
              obtain rfl : a' = some ⟨b', off', none⟩ := HK.out.at_ (by omega)
              have hbl := HK.out.lt (by omega)
              have T := HTB.out.later hJ.below (by omega)
              have d0 : wr.cell? ⟨b', off' + k' * 3, none⟩ = some (.int .u8 (R' k')) := (T.below.cell hbl).trans (HK.out.c0 k' hlt)
              have d1 : wr.cell? ⟨b', off' + k' * 3 + 1, none⟩ = some (.int .u8 (C' k')) := (T.below.cell hbl).trans (HK.out.c1 k' hlt)
              have d2 : wr.cell? ⟨b', off' + k' * 3 + 2, none⟩ = some (.int .u8 (N' k')) := (T.below.cell hbl).trans (HK.out.c2 k' hlt)
              have hR := HK.out.r0 k'
              have hC := HK.out.r1 k'
              have hN := HK.out.r2 k'
              have e3 : Int.tmod (R' k' : Int) 3 = ((R' k' % 3 : Nat) : Int) := by
                rw [Int.tmod_eq_emod_of_nonneg (by omega)]; omega
              have e8 : Int.tmod (C' k' : Int) 8 = ((C' k' % 8 : Nat) : Int) := by
                rw [Int.tmod_eq_emod_of_nonneg (by omega)]; omega
              have eN : Int.tmod (N' k' : Int) 3 = ((N' k' % 3 : Nat) : Int) := by
                rw [Int.tmod_eq_emod_of_nonneg (by omega)]; omega
              obtain ⟨i, hi⟩ : ∃ i, i = R' k' % 3 := ⟨_, rfl⟩
              obtain ⟨c, hc⟩ : ∃ c, c = C' k' % 8 := ⟨_, rfl⟩
              obtain ⟨j, hj⟩ : ∃ j, j = N' k' % 3 := ⟨_, rfl⟩
              have hi3 : i < 3 := by omega
              have hj3 : j < 3 := by omega
              have hc8 : c < 8 := by omega
              rw [← hi, ← hc, ← hj] at HX
              rw [← hi] at e3
              rw [← hc] at e8
              rw [← hj] at eN
              clear hi hc hj
              have hi3I : (i : Int) < 3 := by omega
              have hi0I : (0 : Int) ≤ (i : Int) := by omega
              have hj3I : (j : Int) < 3 := by omega
              have hj0I : (0 : Int) ≤ (j : Int) := by omega
              have hkI : (k' : Int) < (n' : Int) := by omega
              have hk0 : (0 : Int) ≤ (k' : Int) := by omega
              have hsz := hJ.size
              have r1 : ∀ o1, (wr.alloc o1).cell? ⟨w.heap.size + 1, i, none⟩ = some (.string (rep i)) := fun o1 => (((Below.refl _ wr).alloc (Nat.le_refl _) o1).cell (by show w.heap.size + 1 < _; omega)).trans (T.rep_ hi3)
              have r2 : ∀ o1, (wr.alloc o1).cell? ⟨w.heap.size + 2, j, none⟩ = some (.string (nam j)) := fun o1 => (((Below.refl _ wr).alloc (Nat.le_refl _) o1).cell (by show w.heap.size + 2 < _; omega)).trans (T.nam_ hj3)
              have r1' : ∀ o1 o2, ((wr.alloc o1).alloc o2).cell? ⟨w.heap.size + 1, i, none⟩ = some (.string (rep i)) := fun o1 o2 => ((((Below.refl _ wr).alloc (Nat.le_refl _) o1).alloc (by simp) o2).cell (by show w.heap.size + 1 < _; omega)).trans (T.rep_ hi3)
              have r2' : ∀ o1 o2, ((wr.alloc o1).alloc o2).cell? ⟨w.heap.size + 2, j, none⟩ = some (.string (nam j)) := fun o1 o2 => ((((Below.refl _ wr).alloc (Nat.le_refl _) o1).alloc (by simp) o2).cell (by show w.heap.size + 2 < _; omega)).trans (T.nam_ hj3)
              have hB1 : ∀ o1 o2 o3, Below wr.heap.size wr (((wr.alloc o1).alloc o2).alloc o3).drew := fun o1 o2 o3 => ((((Below.refl _ _).alloc (Nat.le_refl _) o1).alloc (by simp) o2).alloc (by simp; omega) o3).drew
              have HL : Hid (∀ o1 o2 o3, Inv2 wB.heap.size 45 4 kcells V LK wB k' u25 (((wr.alloc o1).alloc o2).alloc o3).drew) := fun o1 o2 o3 => hJ.later (hB1 o1 o2 o3)
              have HR : Hid (∀ o1 o2 o3, rowsAt (((wr.alloc o1).alloc o2).alloc o3).drew wB.heap.size 45 4 n' k' (cellsOf kcells LK)) := fun o1 o2 o3 => by
                have := (HL.out o1 o2 o3).row
                rw [HLenK.out] at this
                exact this
              have HA1 : Hid (∀ o1 o2, ∀ q, q < 4 → (((wr.alloc o1).alloc o2).alloc (.cells #[.string (rep i), .int .u64 (c : Nat), .string (nam j), .int .u8 1] 45)).drew.cell? ((⟨wr.heap.size + 2, 0, none⟩ : Addr).add q) = some (cellsOf kcells LK (k' * 4 + q))) := fun o1 o2 => by
                have h := row_ha (cells := kcells) (m := 4) (fun _ => rfl) hkL HX.out.symm (new_kcells ((wr.alloc o1).alloc o2) (rep i, c, nam j) 45)
                simpa using h
              have HA2 := row_h1 (cells := kcells) (m := 4) (fun _ => rfl) kcells_one hkL
              clear hB1 hJ
              by_cases ho : c ≤ V (rep i)
              · have hoI : (c : Int) ≤ (V (rep i) : Int) := by omega
                have hk3 : (kept V LK k').length + 1 ≤ maxLen := by have := kept_le V LK k'; unfold maxLen; omega
                have hk4 : ((kept V LK k').length + 1) * 48 ≤ 140737488355328 := by have := kept_le V LK k'; omega
                have hq1 : ∀ o1 o2 o3, wr.heap.size + 1 < (((wr.alloc o1).alloc o2).alloc o3).drew.heap.size := fun _ _ _ => by simp
                have hne1 : some (wr.heap.size + 1) ≠ some wB.heap.size := by simp; omega
                have hy : ∀ o1 o3, blockIs (((wr.alloc o1).alloc (.cells #[.string (rep i), .int .u64 (c : Nat), .string (nam j), .int .u8 1] 45)).alloc o3).drew (wr.heap.size + 1) #[.string (rep i), .int .u64 (c : Nat), .string (nam j), .int .u8 1] 45 := fun o1 o3 => (blockIs_newAt (w := wr.alloc o1) rfl (by simp)).alloc o3
                go_wp2
                go_region
                go_wp2_with (first
                  | (at_builtin; refine wpList_append_rows _ rfl (.tmp 137) (.tmp 139) 38 rfl wB.heap.size 45 4 n' k' (cellsOf kcells LK) i45 (HR.out _ _ _) Yba.underlying38 hi45 hs45 hlt ⟨wr.heap.size + 2, 0, none⟩ 1 rfl rfl (HA1.out _ _) HA2 ?_; intro wb hrb hgb hzb; clear hzb
                     have HM := (HL.out _ _ _).mid hgb
                     have hyb := (hy _ _).of_block (hgb.block (wr.heap.size + 1) (hq1 _ _ _) hne1)
                     have q0 : wb.cell? ⟨wr.heap.size + 1, 0, none⟩ = some (.string (rep i)) := hyb.cellAt 0
                     have q1 : wb.cell? ⟨wr.heap.size + 1, 1, none⟩ = some (.int .u64 (c : Nat)) := hyb.cellAt 1
                     have q2 : wb.cell? ⟨wr.heap.size + 1, 2, none⟩ = some (.string (nam j)) := hyb.cellAt 2
                     have q3 : wb.cell? ⟨wr.heap.size + 1, 3, none⟩ = some (.int .u8 1) := hyb.cellAt 3
                     have cb := (HTB.out.later HM.1 hgB).cnt_ hi3
                     have hbase : ∀ o, wB.heap.size + 1 ≤ (wb.alloc o).heap.size := fun o => Nat.le_trans HM.2.2 (by simp))
                  | (at_builtin; refine wpList_append_own _ rfl (.tmp 146) (.tmp 148) 38 rfl (wB.heap.size + 1) 45 i45 (.agg #[.string ByteArray.empty, .int .u64 0, .string ByteArray.empty, .int .u8 0]) 4 48 Yba.underlying38 hi45 hz45 hs45 hb45 rfl (by decide) _ _ _ rfl (HM.2.1.alloc _) ⟨wb.heap.size, 0, none⟩ 1 1 (kcells (rep i, c, nam j)) rfl rfl (new_kcells _ _ _) (kcells_one _) hk3 hk4 (hbase _) ?_; intro v' wd hown3 hg3 hnn; clear hnn))
                go_roundw
                case rel =>
                  have hx := HX.out
                  rw [← HLenK.out] at hrb
                  exact ⟨k' + 1, by omega, by go_num, rfl, (HL.out _ _ _).hit hkL (by rw [hx]; simpa [obs] using ho) hgb hrb ((Below.refl _ _).alloc (Nat.le_refl _) _) hg3 (by rw [hx]; exact hown3)⟩
                case measure => simp [intOf]; omega
              · have hoI : ¬ (c : Int) ≤ (V (rep i) : Int) := by omega
                go_wp2
                go_region
                go_wp2_with (first
                  | (at_builtin; refine wpList_append_rows _ rfl (.tmp 137) (.tmp 139) 38 rfl wB.heap.size 45 4 n' k' (cellsOf kcells LK) i45 (HR.out _ _ _) Yba.underlying38 hi45 hs45 hlt ⟨wr.heap.size + 2, 0, none⟩ 1 rfl rfl (HA1.out _ _) HA2 ?_; intro wb hrb hgb hzb; clear hzb
                     have HM := (HL.out _ _ _).mid hgb
                     have cb := (HTB.out.later HM.1 hgB).cnt_ hi3)
                  | fail)
                go_roundw
                case rel =>
                  have hx := HX.out
                  rw [← HLenK.out] at hrb
                  exact ⟨k' + 1, by omega, by go_num, rfl, (HL.out _ _ _).miss hkL (by rw [hx]; simpa [obs] using ho) hgb hrb⟩
                case measure => simp [intOf]; omega
            · obtain rfl : k' = n' := by omega
              have hge' : ¬ (k' : Int) < (k' : Int) := by omega
              obtain ⟨wC, hwC⟩ : ∃ wC : World, wC = wr := ⟨_, rfl⟩
              subst hwC
              have hsC := hJ.size
              have T := HTB.out.later hJ.below hgB
              have hJ' : Inv2 wB.heap.size 45 4 kcells V LK wB LK.length u25 wC := by rw [HLenK.out]; exact hJ
              obtain ⟨cK, hK, hcK⟩ := hJ'.hasAll (cells := kcells) (m := 4) (fun _ => rfl) wC.heap.size (show wB.heap.size < wC.heap.size by omega)
              have hWK := (hJ'.hasKept (cells := kcells) (m := 4) (fun _ => rfl)).other (Nat.le_refl _)
              rw [hcK] at hK
              obtain ⟨KK, hKK⟩ : ∃ KK, KK = LK.filter (obs V) := ⟨_, rfl⟩
              rw [← hKK] at hWK
              obtain ⟨xao, xac, rfl⟩ := hWK.form (n := KK.length) rfl
              have hD2 := (HDB.out.below hJ.below).other (Nat.le_refl _)
              have hW2 := (HWB.out.below hJ.below).other (Nat.le_refl _)
              have hlenD := HLen.out
              have hlenK := HLenK.out
              have hPre := tail_pre o T hD2 hK (listD_small' HLD.out) (listK_small' HLK.out) (by omega) (by omega)
              have hKDle : KD.length ≤ 1024 := by
                have := List.length_filter_le (obs V) LD
                rw [HKD.out]
                omega
              have hKKle : KK.length ≤ 1024 := by
                have := List.length_filter_le (obs V) LK
                rw [hKK]
                omega
              rw [hlenD, hlenK] at hPre
              have HPre : Hid (FPre (w.heap.size + 4) V LD LK (wC.heap.size + 2) (wC.heap.size + 1) wC.heap.size o (some ⟨w.heap.size + 6, 0, none⟩) k (some ⟨wB.heap.size, 0, none⟩) k' (tailW o wC w.heap.size k wB.heap.size k')) := hPre
              have HT := T.below
              have y0 : ∀ o1 o2 o3, (((wC.alloc o1).alloc o2).alloc o3).cell? ⟨w.heap.size + 5, 0, none⟩ = some (.map (some (w.heap.size + 4))) := fun o1 o2 o3 => (((T.t5.alloc o1).alloc o2).alloc o3).cellAt 0
              have y1 : ∀ o1 o2 o3, (((wC.alloc o1).alloc o2).alloc o3).cell? ⟨w.heap.size + 5, 1, none⟩ = some (.slice none 0 0) := fun o1 o2 o3 => (((T.t5.alloc o1).alloc o2).alloc o3).cellAt 1
              have HE : Hid (∀ w', (tailW o wC w.heap.size k wB.heap.size k').grownBy w' (some wC.heap.size) → Below w.heap.size w w' ∧ hasE wC.heap.size 2 dcells w' (.slice wao KD.length wac) KD ∧ hasE wC.heap.size 4 kcells w' (.slice xao KK.length xac) KK) := fun w' hg => tail_end T.below (by omega) hW2 hWK hg
              have HKK : Hid (KK = LK.filter (obs V)) := hKK
              clear hD2 hW2 hK hWK hJ hJ' hcK cK T hKK hPre HDB HWB HTB HLD HLK HLen HLenK hlenD hlenK HT hkn hlt hm2
              have hta := assert_50
              by_cases hz : KD.length = 0
              · have hzI : (KD.length : Int) = 0 := by omega
                have HZ : Hid (KD.length = 0) := hz
                clear hz
                cases al with
                | true =>
                  have hcall := restrict_none HPre.out (by rw [← HKD.out]; exact List.length_eq_zero_iff.1 HZ.out)
                  unfold tailW at hcall
                  have HR := HPre.out.hr
                  go_wp2_with (go_at_call 4; refine hcall.mono ?_; rintro e w2 ⟨rfl, hb⟩
                               have hR2 := HR.of_block (hb.block _ HR.lt)
                               have z1 : w2.cell? ⟨wC.heap.size, 1, none⟩ = some (.int .i64 0) := hR2.cellAt 1
                               have z2 : w2.cell? ⟨wC.heap.size, 2, none⟩ = some (.int .i64 0) := hR2.cellAt 2)
                  go_ret
                  exact ⟨rfl, (HE.out w2 (grown_of_below hb _)).1⟩
                | false =>
                  cases o with
                  | true =>
                    have hcall := restrict_plain_out HPre.out KD KK HKD.out HKK.out HZ.out
                    unfold tailW at hcall
                    go_wp2_with (first
                      | (go_at_call 4; refine hcall.mono ?_; rintro e w2 ⟨rv, rfl, hg, g', gc, dao, dc', kao, kc', rfl, p1, p2, p3, p4, p5⟩
                         have z1 : w2.cell? ⟨wC.heap.size, 1, none⟩ = some (.int .i64 1) := p5.cellAt 1
                         have z2 : w2.cell? ⟨wC.heap.size, 2, none⟩ = some (.int .i64 0) := p5.cellAt 2
                         have x0 : w2.cell? ⟨g', 0, none⟩ = some (.slice dao KD.length dc') := p1.cellAt 0
                         have x1 : w2.cell? ⟨g', 1, none⟩ = some (.iface 50 (.pointer (some ⟨gc, 0, none⟩))) := p1.cellAt 1
                         have x2 : w2.cell? ⟨g', 2, none⟩ = some (.slice kao KK.length kc') := p1.cellAt 2
                         have c0 : w2.cell? ⟨gc, 0, none⟩ = some (.bool true) := p2.cellAt 0
                         have c1 : w2.cell? ⟨gc, 1, none⟩ = some (.bool true) := p2.cellAt 1
                         have E6 := equal_dot' hKDle p3 (HE.out w2 hg).2.1
                         have E5 := equal_key' hKKle p4 (HE.out w2 hg).2.2)
                      | (go_at_call 6; refine (E6 _ ?_).mono ?_; exact rfl; rintro e w3 ⟨rfl, m3, rfl⟩)
                      | (go_at_call 5; refine (E5 _ ?_).mono ?_; exact rfl; rintro e w4 ⟨rfl, m4, rfl⟩))
                    go_ret
                    exact ⟨rfl, below_drewN (HE.out w2 hg).1 _⟩
                  | false =>
                    have hcall := restrict_plain_none HPre.out KD KK HKD.out HKK.out HZ.out
                    unfold tailW at hcall
                    go_wp2_with (go_at_call 4; refine hcall.mono ?_; rintro e w2 ⟨rfl, hg, p5⟩
                                 have z1 : w2.cell? ⟨wC.heap.size, 1, none⟩ = some (.int .i64 1) := p5.cellAt 1
                                 have z2 : w2.cell? ⟨wC.heap.size, 2, none⟩ = some (.int .i64 0) := p5.cellAt 2)
                    go_ret
                    exact ⟨rfl, (HE.out w2 hg).1⟩
              · have hkI : ¬ ((KD.length : Int) = 0) := by omega
                cases al with
                | true =>
                  have hcall := restrict_into HPre.out KD KK HKD.out HKK.out hz
                  unfold tailW at hcall
                  go_wp2_with (first
                    | (go_at_call 4; refine hcall.mono ?_; rintro e w2 ⟨rv, rfl, hg, g', gc, dao, dc', kao, kc', rfl, p1, p2, p3, p4, p5⟩
                       have z1 : w2.cell? ⟨wC.heap.size, 1, none⟩ = some (.int .i64 0) := p5.cellAt 1
                       have z2 : w2.cell? ⟨wC.heap.size, 2, none⟩ = some (.int .i64 1) := p5.cellAt 2
                       have z3 : w2.cell? ⟨wC.heap.size, 3, none⟩ = some (.slice kao KK.length kc') := p5.cellAt 3
                       have z4 : w2.cell? ⟨wC.heap.size, 4, none⟩ = some (.bool true) := p5.cellAt 4
                       have x0 : w2.cell? ⟨g', 0, none⟩ = some (.slice dao KD.length dc') := p1.cellAt 0
                       have x1 : w2.cell? ⟨g', 1, none⟩ = some (.iface 50 (.pointer (some ⟨gc, 0, none⟩))) := p1.cellAt 1
                       have x2 : w2.cell? ⟨g', 2, none⟩ = some (.slice kao KK.length kc') := p1.cellAt 2
                       have c0 : w2.cell? ⟨gc, 0, none⟩ = some (.bool o) := p2.cellAt 0
                       have c1 : w2.cell? ⟨gc, 1, none⟩ = some (.bool true) := p2.cellAt 1
                       have E6 := equal_dot' hKDle p3 (HE.out w2 hg).2.1
                       have E5 := equal_key' hKKle p4 (HE.out w2 hg).2.2)
                    | (go_at_call 6; refine (E6 _ ?_).mono ?_; exact rfl; rintro e w3 ⟨rfl, m3, rfl⟩)
                    | (go_at_call 5; refine (E5 _ ?_).mono ?_; exact rfl; rintro e w4 ⟨rfl, m4, rfl⟩))
                  go_ret
                  exact ⟨rfl, below_drewN (HE.out w2 hg).1 _⟩
                | false =>
                  have hcall := restrict_plain_dots HPre.out KD KK HKD.out HKK.out hz
                  unfold tailW at hcall
                  go_wp2_with (first
                    | (go_at_call 4; refine hcall.mono ?_; rintro e w2 ⟨rv, rfl, hg, g', gc, dao, dc', kao, kc', rfl, p1, p2, p3, p4, p5⟩
                       have z1 : w2.cell? ⟨wC.heap.size, 1, none⟩ = some (.int .i64 1) := p5.cellAt 1
                       have z2 : w2.cell? ⟨wC.heap.size, 2, none⟩ = some (.int .i64 0) := p5.cellAt 2
                       have x0 : w2.cell? ⟨g', 0, none⟩ = some (.slice dao KD.length dc') := p1.cellAt 0
                       have x1 : w2.cell? ⟨g', 1, none⟩ = some (.iface 50 (.pointer (some ⟨gc, 0, none⟩))) := p1.cellAt 1
                       have x2 : w2.cell? ⟨g', 2, none⟩ = some (.slice kao KK.length kc') := p1.cellAt 2
                       have c0 : w2.cell? ⟨gc, 0, none⟩ = some (.bool o) := p2.cellAt 0
                       have c1 : w2.cell? ⟨gc, 1, none⟩ = some (.bool true) := p2.cellAt 1
                       have E6 := equal_dot' hKDle p3 (HE.out w2 hg).2.1
                       have E5 := equal_key' hKKle p4 (HE.out w2 hg).2.2)
                    | (go_at_call 6; refine (E6 _ ?_).mono ?_; exact rfl; rintro e w3 ⟨rfl, m3, rfl⟩)
                    | (go_at_call 5; refine (E5 _ ?_).mono ?_; exact rfl; rintro e w4 ⟨rfl, m4, rfl⟩))
                  go_ret
                  exact ⟨rfl, below_drewN (HE.out w2 hg).1 _⟩

end Go.Proofs.Ybulkfym
