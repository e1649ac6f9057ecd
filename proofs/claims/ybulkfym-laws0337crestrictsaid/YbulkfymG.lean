/-
  (*field).restrict, where the value is judged too.
-/
import Derived.Test.YbulkfymF
namespace Go.Proofs.Ybulkfym
open Go.RowKit
open Go.Maps (Keyed)

section
variable {b : Nat} {V : ByteArray → Nat} {LD LK : List El} {gf gv gr : Nat} {o : Bool} {da : Option Addr} {dc : Nat} {ka : Option Addr} {kc : Nat} {w : World}

set_option maxRecDepth 100000 in
set_option maxHeartbeats 4000000 in
/-- The value is judged too: there is something to hand back. -/
theorem restrict_plain_dots (h : FPre b V LD LK gf gv gr o da dc ka kc w) (KD KK : List El) (hKD : KD = LD.filter (obs V)) (hKK : KK = LK.filter (obs V)) (hk : KD.length ≠ 0) :
    Calls Yba.prog 4 #[.pointer (some ⟨gf, 0, none⟩), .agg #[.map (some b), .slice none 0 0], .bool false] w fun e w' => ∃ rv, e = .returned rv ∧ w.grownBy w' (some gr) ∧ Got gr o KD KK (fun _ _ => #[.bool o, .int .i64 1, .int .i64 0, .slice none 0 0, .bool false]) rv w' := by
  obtain ⟨o1, ho1⟩ : ∃ o1 : Obj, o1 = .cells #[.map (some b), .slice none 0 0] 33 := ⟨_, rfl⟩
  have hA := (Below.refl w.heap.size w).alloc (Nat.le_refl _) o1
  have PA := h.below hA.drew
  have f0 : (w.alloc o1).cell? ⟨gf, 0, none⟩ = some (.slice da LD.length dc) := PA.hf.cellAt 0
  have hc := observedIn_dot b V LD gr _ _ PA.hm PA.sD PA.nD PA.hD PA.hr.lt
  have HA : Hid (Below w.heap.size w (w.alloc o1)) := hA
  have HO : Hid (o1 = .cells #[.map (some b), .slice none 0 0] 33) := ho1
  have hsA : (w.alloc o1).heap.size = w.heap.size + 1 := by simp
  clear PA hA
  rw [ho1] at hc f0
  have hKDn : KD.length ≤ 1024 := by
    have := List.length_filter_le (obs V) LD
    have := h.nD
    rw [hKD]
    omega
  rw [← hKD] at hc
  have HKD : Hid (KD = LD.filter (obs V)) := hKD
  have HKK : Hid (KK = LK.filter (obs V)) := hKK
  clear hKD hKK ho1
  have hkI : ¬ ((KD.length : Int) = 0) := by omega
  have HH := h
  clear h
  go_enter Yba.func4, Yba.ntmps4
  go_upto_region 1 with (fail)
  go_cut [7] (fun s wc => ∃ ao c, s = .slice ao KD.length c ∧ hasE gr 2 dcells wc s KD ∧ Below (w.heap.size + 1) (w.alloc o1) wc)
  case first =>
    go_region_with (go_at_call 7; refine hc.mono ?_; rintro e w1 ⟨⟨v', rfl, hv'⟩, hb⟩)
    all_goals
      go_wp2_with fail
      go_meet
      case rel =>
        obtain ⟨ao, c, e⟩ := hv'.form (n := KD.length) rfl
        exact ⟨ao, c, e, hv', by rw [HO.out]; exact Below.trans (Below.refl _ _).drew (hb.mono (B' := w.heap.size + 1) (by simp))⟩
  case rest =>
    obtain ⟨dao, dcc, rfl, hD1, hb1⟩ := hcut
    obtain ⟨w1, hw1⟩ : ∃ w1 : World, w1 = wc := ⟨_, rfl⟩
    subst hw1
    have P1 : FPre b V LD LK gf gv gr o da dc ka kc w1 := HH.below (HA.out.trans (hb1.mono (by omega)))
    have P1d : FPre b V LD LK gf gv gr o da dc ka kc w1.drew := P1.below (Below.refl _ _).drew
    have hws : w.heap.size + 1 ≤ w1.heap.size := by have := hb1.size; omega
    have f2 : w1.cell? ⟨gf, 2, none⟩ = some (.slice ka LK.length kc) := P1.hf.cellAt 2
    have x0 : w1.cell? ⟨w.heap.size, 0, none⟩ = some (.map (some b)) := (hb1.cell (by show w.heap.size < _; omega)).trans (by rw [HO.out]; simp)
    have x1 : w1.cell? ⟨w.heap.size, 1, none⟩ = some (.slice none 0 0) := (hb1.cell (by show w.heap.size < _; omega)).trans (by rw [HO.out]; simp)
    have hc2 := observedIn_key b V LK gr _ _ P1d.hm P1d.sK P1d.nK P1d.hK P1d.hr.lt
    rw [← HKK.out] at hc2
    clear P1d f0 hc
    go_upto_region 4 with (fail)
    go_cut [8] (fun s wd => ∃ ao c, s = .slice ao KK.length c ∧ hasE gr 4 kcells wd s KK ∧ Below w1.heap.size w1 wd)
    case first =>
      go_region_with (go_at_call 8; refine hc2.mono ?_; rintro e w2 ⟨⟨v', rfl, hv'⟩, hb⟩)
      all_goals
        go_wp2_with fail
        go_meet
        case rel =>
          obtain ⟨ao, c, e⟩ := hv'.form (n := KK.length) rfl
          exact ⟨ao, c, e, hv', Below.trans (Below.refl _ _).drew hb⟩
    case rest =>
      obtain ⟨kao, kcc, rfl, hK2, hb2⟩ := hcut
      obtain ⟨w2, hw2⟩ : ∃ w2 : World, w2 = wc := ⟨_, rfl⟩
      subst hw2
      have P2 : FPre b V LD LK gf gv gr o da dc ka kc w2 := P1.below hb2
      have P2d : FPre b V LD LK gf gv gr o da dc ka kc w2.drew := P2.below (Below.refl _ _).drew
      have hws2 := hb2.size
      have f1 : w2.cell? ⟨gf, 1, none⟩ = some (.iface 50 (.pointer (some ⟨gv, 0, none⟩))) := P2.hf.cellAt 1
      have y0 : w2.cell? ⟨w.heap.size, 0, none⟩ = some (.map (some b)) := (hb2.cell (by show w.heap.size < _; omega)).trans x0
      have y1 : w2.cell? ⟨w.heap.size, 1, none⟩ = some (.slice none 0 0) := (hb2.cell (by show w.heap.size < _; omega)).trans x1
      have hD2 := hD1.below hb2
      have HG : w.grownBy w2 (some gr) := by
        refine grown_trans (grown_of_below HA.out _) (grown_trans ⟨hb1.os, hb1.tape, hb1.output, hb1.size, fun k hk _ => hb1.block k (by omega)⟩ (grown_of_below hb2 _))
      clear x0 x1 f2 hc2 hb1 hb2 P1 hD1 hws hws2
      have hc3 := restrict_any gv gr o (.map (some b)) _ P2d.hv.lt (P2d.hv.cellAt 2) P2d.hr
      have hin := method_restrict
      conv at hin in nameOf _ _ => whnf
      clear P2d
      go_upto_region 8 with (fail)
      go_cut [9] (fun s wd => ∃ g', s = .iface 50 (.pointer (some ⟨g', 0, none⟩)) ∧ w2.heap.size ≤ g' ∧ blockIs wd g' #[.bool o, .bool true, .pointer (some ⟨gr, 0, none⟩)] 52 ∧
        blockIs wd gr #[.bool o, .int .i64 1, .int .i64 0, .slice none 0 0, .bool false] 48 ∧ w2.grownBy wd (some gr))
      case first =>
        go_region_with (go_at_call 43; refine hc3.mono ?_; rintro e w3 ⟨⟨g', rfl, j1, j2⟩, j3, j4⟩)
        all_goals
          go_wp2_with fail
          go_meet
          case rel => exact ⟨g', rfl, j1, j2, j3, ⟨j4.os, j4.tape, j4.output, j4.size, j4.block⟩⟩
      case rest =>
        obtain ⟨g', rfl, j1, j2, j3, j4⟩ := hcut
        clear hin hc3 P2 f1 y0 y1
        go_wp2
        go_ret
        exact ⟨_, rfl, grown_trans HG (grown_trans j4 (World.grownBy_alloc _ _ _)), _, g', dao, dcc, kao, kcc, rfl, blockIs_newAt rfl (by simp), j2.alloc _,
            (hD2.grown j4).grown (World.grownBy_alloc _ _ _), (hK2.grown j4).grown (World.grownBy_alloc _ _ _), j3.alloc _⟩


set_option maxRecDepth 100000 in
set_option maxHeartbeats 4000000 in
/-- The value is judged too: there is something to hand back. -/
theorem restrict_plain_out (h : FPre b V LD LK gf gv gr true da dc ka kc w) (KD KK : List El) (hKD : KD = LD.filter (obs V)) (hKK : KK = LK.filter (obs V)) (hk : KD.length = 0) :
    Calls Yba.prog 4 #[.pointer (some ⟨gf, 0, none⟩), .agg #[.map (some b), .slice none 0 0], .bool false] w fun e w' => ∃ rv, e = .returned rv ∧ w.grownBy w' (some gr) ∧ Got gr true KD KK (fun _ _ => #[.bool true, .int .i64 1, .int .i64 0, .slice none 0 0, .bool false]) rv w' := by
  obtain ⟨o1, ho1⟩ : ∃ o1 : Obj, o1 = .cells #[.map (some b), .slice none 0 0] 33 := ⟨_, rfl⟩
  have hA := (Below.refl w.heap.size w).alloc (Nat.le_refl _) o1
  have PA := h.below hA.drew
  have f0 : (w.alloc o1).cell? ⟨gf, 0, none⟩ = some (.slice da LD.length dc) := PA.hf.cellAt 0
  have hc := observedIn_dot b V LD gr _ _ PA.hm PA.sD PA.nD PA.hD PA.hr.lt
  have HA : Hid (Below w.heap.size w (w.alloc o1)) := hA
  have HO : Hid (o1 = .cells #[.map (some b), .slice none 0 0] 33) := ho1
  have hsA : (w.alloc o1).heap.size = w.heap.size + 1 := by simp
  clear PA hA
  rw [ho1] at hc f0
  have hKDn : KD.length ≤ 1024 := by
    have := List.length_filter_le (obs V) LD
    have := h.nD
    rw [hKD]
    omega
  rw [← hKD] at hc
  have HKD : Hid (KD = LD.filter (obs V)) := hKD
  have HKK : Hid (KK = LK.filter (obs V)) := hKK
  clear hKD hKK ho1
  have hzI : (KD.length : Int) = 0 := by omega
  have HZ : Hid (KD.length = 0) := hk
  clear hk
  have HH := h
  clear h
  go_enter Yba.func4, Yba.ntmps4
  go_upto_region 1 with (fail)
  go_cut [7] (fun s wc => ∃ ao c, s = .slice ao KD.length c ∧ hasE gr 2 dcells wc s KD ∧ Below (w.heap.size + 1) (w.alloc o1) wc)
  case first =>
    go_region_with (go_at_call 7; refine hc.mono ?_; rintro e w1 ⟨⟨v', rfl, hv'⟩, hb⟩)
    all_goals
      go_wp2_with fail
      go_meet
      case rel =>
        obtain ⟨ao, c, e⟩ := hv'.form (n := KD.length) rfl
        exact ⟨ao, c, e, hv', by rw [HO.out]; exact Below.trans (Below.refl _ _).drew (hb.mono (B' := w.heap.size + 1) (by simp))⟩
  case rest =>
    obtain ⟨dao, dcc, rfl, hD1, hb1⟩ := hcut
    obtain ⟨w1, hw1⟩ : ∃ w1 : World, w1 = wc := ⟨_, rfl⟩
    subst hw1
    have P1 : FPre b V LD LK gf gv gr true da dc ka kc w1 := HH.below (HA.out.trans (hb1.mono (by omega)))
    have P1d : FPre b V LD LK gf gv gr true da dc ka kc w1.drew := P1.below (Below.refl _ _).drew
    have hws : w.heap.size + 1 ≤ w1.heap.size := by have := hb1.size; omega
    have f2 : w1.cell? ⟨gf, 2, none⟩ = some (.slice ka LK.length kc) := P1.hf.cellAt 2
    have x0 : w1.cell? ⟨w.heap.size, 0, none⟩ = some (.map (some b)) := (hb1.cell (by show w.heap.size < _; omega)).trans (by rw [HO.out]; simp)
    have x1 : w1.cell? ⟨w.heap.size, 1, none⟩ = some (.slice none 0 0) := (hb1.cell (by show w.heap.size < _; omega)).trans (by rw [HO.out]; simp)
    have hc2 := observedIn_key b V LK gr _ _ P1d.hm P1d.sK P1d.nK P1d.hK P1d.hr.lt
    rw [← HKK.out] at hc2
    clear P1d f0 hc
    go_upto_region 4 with (fail)
    go_cut [8] (fun s wd => ∃ ao c, s = .slice ao KK.length c ∧ hasE gr 4 kcells wd s KK ∧ Below w1.heap.size w1 wd)
    case first =>
      go_region_with (go_at_call 8; refine hc2.mono ?_; rintro e w2 ⟨⟨v', rfl, hv'⟩, hb⟩)
      all_goals
        go_wp2_with fail
        go_meet
        case rel =>
          obtain ⟨ao, c, e⟩ := hv'.form (n := KK.length) rfl
          exact ⟨ao, c, e, hv', Below.trans (Below.refl _ _).drew hb⟩
    case rest =>
      obtain ⟨kao, kcc, rfl, hK2, hb2⟩ := hcut
      obtain ⟨w2, hw2⟩ : ∃ w2 : World, w2 = wc := ⟨_, rfl⟩
      subst hw2
      have P2 : FPre b V LD LK gf gv gr true da dc ka kc w2 := P1.below hb2
      have P2d : FPre b V LD LK gf gv gr true da dc ka kc w2.drew := P2.below (Below.refl _ _).drew
      have hws2 := hb2.size
      have f1 : w2.cell? ⟨gf, 1, none⟩ = some (.iface 50 (.pointer (some ⟨gv, 0, none⟩))) := P2.hf.cellAt 1
      have y0 : w2.cell? ⟨w.heap.size, 0, none⟩ = some (.map (some b)) := (hb2.cell (by show w.heap.size < _; omega)).trans x0
      have y1 : w2.cell? ⟨w.heap.size, 1, none⟩ = some (.slice none 0 0) := (hb2.cell (by show w.heap.size < _; omega)).trans x1
      have hD2 := hD1.below hb2
      have HG : w.grownBy w2 (some gr) := by
        refine grown_trans (grown_of_below HA.out _) (grown_trans ⟨hb1.os, hb1.tape, hb1.output, hb1.size, fun k hk _ => hb1.block k (by omega)⟩ (grown_of_below hb2 _))
      clear x0 x1 f2 hc2 hb1 hb2 P1 hD1 hws hws2
      have hc3 := restrict_any gv gr true (.map (some b)) _ P2d.hv.lt (P2d.hv.cellAt 2) P2d.hr
      have hin := method_restrict
      conv at hin in nameOf _ _ => whnf
      have hho := method_holds
      conv at hho in nameOf _ _ => whnf
      clear P2d
      go_upto_region 8 with (fail)
      go_cut [9] (fun s wd => ∃ g', s = .iface 50 (.pointer (some ⟨g', 0, none⟩)) ∧ w2.heap.size ≤ g' ∧ blockIs wd g' #[.bool true, .bool true, .pointer (some ⟨gr, 0, none⟩)] 52 ∧
        blockIs wd gr #[.bool true, .int .i64 1, .int .i64 0, .slice none 0 0, .bool false] 48 ∧ w2.grownBy wd (some gr))
      case first =>
        go_region_with (go_at_call 43; refine hc3.mono ?_; rintro e w3 ⟨⟨g', rfl, j1, j2⟩, j3, j4⟩)
        all_goals
          go_wp2_with fail
          go_meet
          case rel => exact ⟨g', rfl, j1, j2, j3, ⟨j4.os, j4.tape, j4.output, j4.size, j4.block⟩⟩
      case rest =>
        obtain ⟨g', rfl, j1, j2, j3, j4⟩ := hcut
        clear hin hc3 P2 f1 y0 y1
        have hch := holds_any g' true _ (j2.cellAt 0)
        go_wp2_with (go_at_call 42; refine hch.mono ?_; rintro e w4 ⟨rfl, rfl⟩)
        go_ret
        exact ⟨_, rfl, grown_trans HG (grown_trans j4 (World.grownBy_alloc _ _ _)), _, g', dao, dcc, kao, kcc, rfl, blockIs_newAt rfl (by simp), j2.alloc _,
            (hD2.grown j4).grown (World.grownBy_alloc _ _ _), (hK2.grown j4).grown (World.grownBy_alloc _ _ _), j3.alloc _⟩


set_option maxRecDepth 100000 in
set_option maxHeartbeats 4000000 in
/-- The value is judged too: there is nothing to hand back. -/
theorem restrict_plain_none (h : FPre b V LD LK gf gv gr false da dc ka kc w) (KD KK : List El) (hKD : KD = LD.filter (obs V)) (hKK : KK = LK.filter (obs V)) (hk : KD.length = 0) :
    Calls Yba.prog 4 #[.pointer (some ⟨gf, 0, none⟩), .agg #[.map (some b), .slice none 0 0], .bool false] w fun e w' => e = .returned (.pointer none) ∧ w.grownBy w' (some gr) ∧ blockIs w' gr #[.bool false, .int .i64 1, .int .i64 0, .slice none 0 0, .bool false] 48 := by
  obtain ⟨o1, ho1⟩ : ∃ o1 : Obj, o1 = .cells #[.map (some b), .slice none 0 0] 33 := ⟨_, rfl⟩
  have hA := (Below.refl w.heap.size w).alloc (Nat.le_refl _) o1
  have PA := h.below hA.drew
  have f0 : (w.alloc o1).cell? ⟨gf, 0, none⟩ = some (.slice da LD.length dc) := PA.hf.cellAt 0
  have hc := observedIn_dot b V LD gr _ _ PA.hm PA.sD PA.nD PA.hD PA.hr.lt
  have HA : Hid (Below w.heap.size w (w.alloc o1)) := hA
  have HO : Hid (o1 = .cells #[.map (some b), .slice none 0 0] 33) := ho1
  have hsA : (w.alloc o1).heap.size = w.heap.size + 1 := by simp
  clear PA hA
  rw [ho1] at hc f0
  have hKDn : KD.length ≤ 1024 := by
    have := List.length_filter_le (obs V) LD
    have := h.nD
    rw [hKD]
    omega
  rw [← hKD] at hc
  have HKD : Hid (KD = LD.filter (obs V)) := hKD
  have HKK : Hid (KK = LK.filter (obs V)) := hKK
  clear hKD hKK ho1
  have hzI : (KD.length : Int) = 0 := by omega
  have HZ : Hid (KD.length = 0) := hk
  clear hk
  have HH := h
  clear h
  go_enter Yba.func4, Yba.ntmps4
  go_upto_region 1 with (fail)
  go_cut [7] (fun s wc => ∃ ao c, s = .slice ao KD.length c ∧ hasE gr 2 dcells wc s KD ∧ Below (w.heap.size + 1) (w.alloc o1) wc)
  case first =>
    go_region_with (go_at_call 7; refine hc.mono ?_; rintro e w1 ⟨⟨v', rfl, hv'⟩, hb⟩)
    all_goals
      go_wp2_with fail
      go_meet
      case rel =>
        obtain ⟨ao, c, e⟩ := hv'.form (n := KD.length) rfl
        exact ⟨ao, c, e, hv', by rw [HO.out]; exact Below.trans (Below.refl _ _).drew (hb.mono (B' := w.heap.size + 1) (by simp))⟩
  case rest =>
    obtain ⟨dao, dcc, rfl, hD1, hb1⟩ := hcut
    obtain ⟨w1, hw1⟩ : ∃ w1 : World, w1 = wc := ⟨_, rfl⟩
    subst hw1
    have P1 : FPre b V LD LK gf gv gr false da dc ka kc w1 := HH.below (HA.out.trans (hb1.mono (by omega)))
    have P1d : FPre b V LD LK gf gv gr false da dc ka kc w1.drew := P1.below (Below.refl _ _).drew
    have hws : w.heap.size + 1 ≤ w1.heap.size := by have := hb1.size; omega
    have f2 : w1.cell? ⟨gf, 2, none⟩ = some (.slice ka LK.length kc) := P1.hf.cellAt 2
    have x0 : w1.cell? ⟨w.heap.size, 0, none⟩ = some (.map (some b)) := (hb1.cell (by show w.heap.size < _; omega)).trans (by rw [HO.out]; simp)
    have x1 : w1.cell? ⟨w.heap.size, 1, none⟩ = some (.slice none 0 0) := (hb1.cell (by show w.heap.size < _; omega)).trans (by rw [HO.out]; simp)
    have hc2 := observedIn_key b V LK gr _ _ P1d.hm P1d.sK P1d.nK P1d.hK P1d.hr.lt
    rw [← HKK.out] at hc2
    clear P1d f0 hc
    go_upto_region 4 with (fail)
    go_cut [8] (fun s wd => ∃ ao c, s = .slice ao KK.length c ∧ hasE gr 4 kcells wd s KK ∧ Below w1.heap.size w1 wd)
    case first =>
      go_region_with (go_at_call 8; refine hc2.mono ?_; rintro e w2 ⟨⟨v', rfl, hv'⟩, hb⟩)
      all_goals
        go_wp2_with fail
        go_meet
        case rel =>
          obtain ⟨ao, c, e⟩ := hv'.form (n := KK.length) rfl
          exact ⟨ao, c, e, hv', Below.trans (Below.refl _ _).drew hb⟩
    case rest =>
      obtain ⟨kao, kcc, rfl, hK2, hb2⟩ := hcut
      obtain ⟨w2, hw2⟩ : ∃ w2 : World, w2 = wc := ⟨_, rfl⟩
      subst hw2
      have P2 : FPre b V LD LK gf gv gr false da dc ka kc w2 := P1.below hb2
      have P2d : FPre b V LD LK gf gv gr false da dc ka kc w2.drew := P2.below (Below.refl _ _).drew
      have hws2 := hb2.size
      have f1 : w2.cell? ⟨gf, 1, none⟩ = some (.iface 50 (.pointer (some ⟨gv, 0, none⟩))) := P2.hf.cellAt 1
      have y0 : w2.cell? ⟨w.heap.size, 0, none⟩ = some (.map (some b)) := (hb2.cell (by show w.heap.size < _; omega)).trans x0
      have y1 : w2.cell? ⟨w.heap.size, 1, none⟩ = some (.slice none 0 0) := (hb2.cell (by show w.heap.size < _; omega)).trans x1
      have hD2 := hD1.below hb2
      have HG : w.grownBy w2 (some gr) := by
        refine grown_trans (grown_of_below HA.out _) (grown_trans ⟨hb1.os, hb1.tape, hb1.output, hb1.size, fun k hk _ => hb1.block k (by omega)⟩ (grown_of_below hb2 _))
      clear x0 x1 f2 hc2 hb1 hb2 P1 hD1 hws hws2
      have hc3 := restrict_any gv gr false (.map (some b)) _ P2d.hv.lt (P2d.hv.cellAt 2) P2d.hr
      have hin := method_restrict
      conv at hin in nameOf _ _ => whnf
      have hho := method_holds
      conv at hho in nameOf _ _ => whnf
      clear P2d
      go_upto_region 8 with (fail)
      go_cut [9] (fun s wd => ∃ g', s = .iface 50 (.pointer (some ⟨g', 0, none⟩)) ∧ w2.heap.size ≤ g' ∧ blockIs wd g' #[.bool false, .bool true, .pointer (some ⟨gr, 0, none⟩)] 52 ∧
        blockIs wd gr #[.bool false, .int .i64 1, .int .i64 0, .slice none 0 0, .bool false] 48 ∧ w2.grownBy wd (some gr))
      case first =>
        go_region_with (go_at_call 43; refine hc3.mono ?_; rintro e w3 ⟨⟨g', rfl, j1, j2⟩, j3, j4⟩)
        all_goals
          go_wp2_with fail
          go_meet
          case rel => exact ⟨g', rfl, j1, j2, j3, ⟨j4.os, j4.tape, j4.output, j4.size, j4.block⟩⟩
      case rest =>
        obtain ⟨g', rfl, j1, j2, j3, j4⟩ := hcut
        clear hin hc3 P2 f1 y0 y1
        have hch := holds_any g' false _ (j2.cellAt 0)
        go_wp2_with (go_at_call 42; refine hch.mono ?_; rintro e w4 ⟨rfl, rfl⟩)
        go_ret
        exact ⟨rfl, grown_trans HG j4, j3⟩
end
end Go.Proofs.Ybulkfym
