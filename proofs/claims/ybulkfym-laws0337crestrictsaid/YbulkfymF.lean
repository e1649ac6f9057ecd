/-
  (*field).restrict: what it leaves.
-/
import Derived.Test.YbulkfymKept
import Derived.Test.YbulkfymRes
import Derived.Test.YbulkfymNames
import Derived.Deep.DeepCutAuto
namespace Go.Proofs.Ybulkfym
open Go.RowKit
open Go.Maps (Keyed)

/-- What lies before the call: the context's map b, the field gf with its dots and keys, the stand-in gv and its record gr. -/
structure FPre (b : Nat) (V : ByteArray → Nat) (LD LK : List El) (gf gv gr : Nat) (o : Bool) (da : Option Addr) (dc : Nat) (ka : Option Addr) (kc : Nat) (w : World) : Prop where
  hm : ctxIs w b V
  sD : ∀ x ∈ LD, x.1.size ≤ maxLen
  sK : ∀ x ∈ LK, x.1.size ≤ maxLen
  nD : LD.length ≤ 1024
  nK : LK.length ≤ 1024
  hD : hasE gr 2 dcells w (.slice da LD.length dc) LD
  hK : hasE gr 4 kcells w (.slice ka LK.length kc) LK
  hf : blockIs w gf #[.slice da LD.length dc, .iface 50 (.pointer (some ⟨gv, 0, none⟩)), .slice ka LK.length kc] 56
  hv : blockIs w gv #[.bool false, .bool false, .pointer (some ⟨gr, 0, none⟩)] 52
  hr : blockIs w gr #[.bool o, .int .i64 0, .int .i64 0, .slice none 0 0, .bool false] 48
  hne : gv ≠ gr
  hme : b ≠ gr

section
variable {b : Nat} {V : ByteArray → Nat} {LD LK : List El} {gf gv gr : Nat} {o : Bool} {da : Option Addr} {dc : Nat} {ka : Option Addr} {kc : Nat} {w : World}

theorem FPre.below {w' : World} (h : FPre b V LD LK gf gv gr o da dc ka kc w) (hb : Below w.heap.size w w') : FPre b V LD LK gf gv gr o da dc ka kc w' :=
  ⟨h.hm.below hb h.hm.lt, h.sD, h.sK, h.nD, h.nK, h.hD.below hb, h.hK.below hb, h.hf.of_block (hb.block _ h.hf.lt), h.hv.of_block (hb.block _ h.hv.lt), h.hr.of_block (hb.block _ h.hr.lt), h.hne, h.hme⟩

theorem hasE.grown {q m : Nat} {cells : El → List Value} {w w' : World} {v : Value} {L : List El} (h : hasE q m cells w v L) (hg : w.grownBy w' (some q)) : hasE q m cells w' v L :=
  h.of_blocks hg.size fun g hl hne => ⟨hne, hg.block g hl (by simpa using hne)⟩

theorem hasE.form {q m n : Nat} {cells : El → List Value} {v : Value} {L : List El} (h : hasE q m cells w v L) (hn : L.length = n) : ∃ ao c, v = .slice ao n c := by
  obtain ⟨ao, c, e, _⟩ := h
  exact ⟨ao, c, by rw [e, hn]⟩

set_option maxRecDepth 100000 in
set_option maxHeartbeats 2000000 in
/-- Alone the own dots are judged, and none is observed: nil; nothing has turned. -/
theorem restrict_none (h : FPre b V LD LK gf gv gr o da dc ka kc w) (hk : LD.filter (obs V) = []) :
    Calls Yba.prog 4 #[.pointer (some ⟨gf, 0, none⟩), .agg #[.map (some b), .slice none 0 0], .bool true] w fun e w' => e = .returned (.pointer none) ∧ Below w.heap.size w w' := by
  obtain ⟨o1, ho1⟩ : ∃ o1 : Obj, o1 = .cells #[.map (some b), .slice none 0 0] 33 := ⟨_, rfl⟩
  have hA := (Below.refl w.heap.size w).alloc (Nat.le_refl _) o1
  have PA := h.below hA.drew
  have f0 : (w.alloc o1).cell? ⟨gf, 0, none⟩ = some (.slice da LD.length dc) := PA.hf.cellAt 0
  have hc := observedIn_dot b V LD gr _ _ PA.hm PA.sD PA.nD PA.hD PA.hr.lt
  rw [hk] at hc
  have HA : Hid (Below w.heap.size w (w.alloc o1)) := hA
  clear PA hA
  subst ho1
  go_enter Yba.func4, Yba.ntmps4
  go_upto_region 1 with (fail)
  go_cut [7] (fun s wc => ∃ ao c, s = .slice ao 0 c ∧ Below w.heap.size w wc)
  case first =>
    go_region_with (go_at_call 7; refine hc.mono ?_; rintro e w1 ⟨⟨v', rfl, hv'⟩, hb⟩)
    all_goals
      go_wp2_with fail
      go_meet
      case rel =>
        obtain ⟨ao, c, e⟩ := hv'.form (n := 0) rfl
        exact ⟨ao, c, e, Below.trans HA.out.drew (hb.mono (B' := w.heap.size) (by simp))⟩
  case rest =>
    obtain ⟨ao, c, rfl, hb⟩ := hcut
    go_wp2
    go_ret
    exact ⟨rfl, hb⟩
/-- What a field handed back holds, and what the record then is. -/
def Got (gr : Nat) (o : Bool) (KD KK : List El) (rec : Option Addr → Nat → Array Value) (rv : Value) (w' : World) : Prop :=
  ∃ g' gc dao dc' kao kc', rv = .pointer (some ⟨g', 0, none⟩) ∧ blockIs w' g' #[.slice dao KD.length dc', .iface 50 (.pointer (some ⟨gc, 0, none⟩)), .slice kao KK.length kc'] 56 ∧
    blockIs w' gc #[.bool o, .bool true, .pointer (some ⟨gr, 0, none⟩)] 52 ∧ hasE gr 2 dcells w' (.slice dao KD.length dc') KD ∧ hasE gr 4 kcells w' (.slice kao KK.length kc') KK ∧ blockIs w' gr (rec kao kc') 48

set_option maxRecDepth 100000 in
set_option maxHeartbeats 4000000 in
/-- Alone the own dots are judged, and one is observed. -/
theorem restrict_into (h : FPre b V LD LK gf gv gr o da dc ka kc w) (KD KK : List El) (hKD : KD = LD.filter (obs V)) (hKK : KK = LK.filter (obs V)) (hk : KD.length ≠ 0) :
    Calls Yba.prog 4 #[.pointer (some ⟨gf, 0, none⟩), .agg #[.map (some b), .slice none 0 0], .bool true] w fun e w' => ∃ rv, e = .returned rv ∧ w.grownBy w' (some gr) ∧ Got gr o KD KK (fun ka' kc' => #[.bool o, .int .i64 0, .int .i64 1, .slice ka' KK.length kc', .bool true]) rv w' := by
  obtain ⟨o1, ho1⟩ : ∃ o1 : Obj, o1 = .cells #[.map (some b), .slice none 0 0] 33 := ⟨_, rfl⟩
  have hA := (Below.refl w.heap.size w).alloc (Nat.le_refl _) o1
  have PA := h.below hA.drew
  have f0 : (w.alloc o1).cell? ⟨gf, 0, none⟩ = some (.slice da LD.length dc) := PA.hf.cellAt 0
  have hc := observedIn_dot b V LD gr _ _ PA.hm PA.sD PA.nD PA.hD PA.hr.lt
  have HA : Hid (Below w.heap.size w (w.alloc o1)) := hA
  have HO : Hid (o1 = .cells #[.map (some b), .slice none 0 0] 33) := ho1
  have hsA : (w.alloc o1).heap.size = w.heap.size + 1 := by simp
  clear PA hA
  rw [ho1] at hc f0
  have hKDn : KD.length ≤ 1024 := by
    have := List.length_filter_le (obs V) LD
    have := h.nD
    rw [hKD]
    omega
  rw [← hKD] at hc
  have HKD : Hid (KD = LD.filter (obs V)) := hKD
  have HKK : Hid (KK = LK.filter (obs V)) := hKK
  clear hKD hKK ho1
  have HH := h
  clear h
  go_enter Yba.func4, Yba.ntmps4
  go_upto_region 1 with (fail)
  go_cut [7] (fun s wc => ∃ ao c, s = .slice ao KD.length c ∧ hasE gr 2 dcells wc s KD ∧ Below (w.heap.size + 1) (w.alloc o1) wc)
  case first =>
    go_region_with (go_at_call 7; refine hc.mono ?_; rintro e w1 ⟨⟨v', rfl, hv'⟩, hb⟩)
    all_goals
      go_wp2_with fail
      go_meet
      case rel =>
        obtain ⟨ao, c, e⟩ := hv'.form (n := KD.length) rfl
        exact ⟨ao, c, e, hv', by rw [HO.out]; exact Below.trans (Below.refl _ _).drew (hb.mono (B' := w.heap.size + 1) (by simp))⟩
  case rest =>
    obtain ⟨dao, dcc, rfl, hD1, hb1⟩ := hcut
    obtain ⟨w1, hw1⟩ : ∃ w1 : World, w1 = wc := ⟨_, rfl⟩
    subst hw1
    have P1 : FPre b V LD LK gf gv gr o da dc ka kc w1 := HH.below (HA.out.trans (hb1.mono (by omega)))
    have P1d : FPre b V LD LK gf gv gr o da dc ka kc w1.drew := P1.below (Below.refl _ _).drew
    have hws : w.heap.size + 1 ≤ w1.heap.size := by have := hb1.size; omega
    have f2 : w1.cell? ⟨gf, 2, none⟩ = some (.slice ka LK.length kc) := P1.hf.cellAt 2
    have x0 : w1.cell? ⟨w.heap.size, 0, none⟩ = some (.map (some b)) := (hb1.cell (by show w.heap.size < _; omega)).trans (by rw [HO.out]; simp)
    have x1 : w1.cell? ⟨w.heap.size, 1, none⟩ = some (.slice none 0 0) := (hb1.cell (by show w.heap.size < _; omega)).trans (by rw [HO.out]; simp)
    have hc2 := observedIn_key b V LK gr _ _ P1d.hm P1d.sK P1d.nK P1d.hK P1d.hr.lt
    rw [← HKK.out] at hc2
    clear P1d f0 hc
    go_upto_region 4 with (fail)
    go_cut [8] (fun s wd => ∃ ao c, s = .slice ao KK.length c ∧ hasE gr 4 kcells wd s KK ∧ Below w1.heap.size w1 wd)
    case first =>
      go_region_with (go_at_call 8; refine hc2.mono ?_; rintro e w2 ⟨⟨v', rfl, hv'⟩, hb⟩)
      all_goals
        go_wp2_with fail
        go_meet
        case rel =>
          obtain ⟨ao, c, e⟩ := hv'.form (n := KK.length) rfl
          exact ⟨ao, c, e, hv', Below.trans (Below.refl _ _).drew hb⟩
    case rest =>
      obtain ⟨kao, kcc, rfl, hK2, hb2⟩ := hcut
      obtain ⟨w2, hw2⟩ : ∃ w2 : World, w2 = wc := ⟨_, rfl⟩
      subst hw2
      have P2 : FPre b V LD LK gf gv gr o da dc ka kc w2 := P1.below hb2
      have P2d : FPre b V LD LK gf gv gr o da dc ka kc w2.drew := P2.below (Below.refl _ _).drew
      have hws2 := hb2.size
      have f1 : w2.cell? ⟨gf, 1, none⟩ = some (.iface 50 (.pointer (some ⟨gv, 0, none⟩))) := P2.hf.cellAt 1
      have y0 : w2.cell? ⟨w.heap.size, 0, none⟩ = some (.map (some b)) := (hb2.cell (by show w.heap.size < _; omega)).trans x0
      have y1 : w2.cell? ⟨w.heap.size, 1, none⟩ = some (.slice none 0 0) := (hb2.cell (by show w.heap.size < _; omega)).trans x1
      have hD2 := hD1.below hb2
      have HG : w.grownBy w2 (some gr) := by
        refine grown_trans (grown_of_below HA.out _) (grown_trans ⟨hb1.os, hb1.tape, hb1.output, hb1.size, fun k hk _ => hb1.block k (by omega)⟩ (grown_of_below hb2 _))
      clear x0 x1 f2 hc2 hb1 hb2 P1 hD1 hws hws2
      have hc3 := into_any gv gr o (.map (some b)) kao KK.length kcc _ P2d.hne P2d.hv.lt (P2d.hv.cellAt 2) P2d.hr
      have hin := method_into
      conv at hin in nameOf _ _ => whnf
      clear P2d
      have hkI : ¬ ((KD.length : Int) = 0) := by omega
      go_upto_region 7 with (fail)
      go_cut [9] (fun s wd => ∃ g', s = .iface 50 (.pointer (some ⟨g', 0, none⟩)) ∧ w2.heap.size ≤ g' ∧ blockIs wd g' #[.bool o, .bool true, .pointer (some ⟨gr, 0, none⟩)] 52 ∧
        blockIs wd gr #[.bool o, .int .i64 0, .int .i64 1, .slice kao KK.length kcc, .bool true] 48 ∧ w2.grownBy wd (some gr))
      case first =>
        go_region_with (go_at_call 44; refine hc3.mono ?_; rintro e w3 ⟨⟨g', rfl, j1, j2⟩, j3, j4⟩)
        all_goals
          go_wp2_with fail
          go_meet
          case rel => exact ⟨g', rfl, j1, j2, j3, ⟨j4.os, j4.tape, j4.output, j4.size, j4.block⟩⟩
      case rest =>
        obtain ⟨g', rfl, j1, j2, j3, j4⟩ := hcut
        clear hin hc3 P2 f1 y0 y1
        go_wp2
        go_ret
        exact ⟨_, rfl, grown_trans HG (grown_trans j4 (World.grownBy_alloc _ _ _)), _, g', dao, dcc, kao, kcc, rfl, blockIs_newAt rfl (by simp), j2.alloc _,
          (hD2.grown j4).grown (World.grownBy_alloc _ _ _), (hK2.grown j4).grown (World.grownBy_alloc _ _ _), j3.alloc _⟩
end
end Go.Proofs.Ybulkfym
