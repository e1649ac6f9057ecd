/-
  LawS0329CSecondWaits: the callees that CTable does not come to, and the walk.
-/
import Derived.Test.YbulkfueCBase
namespace Go.Proofs.Ybulkfue
open Go.RowKit

set_option maxHeartbeats 400000 in
theorem ready_any (s : ByteArray) (e q : Int) (a : Option Addr) (n c : Nat) (w : World) :
    Calls Yba.prog 14 #[.agg #[.string s, .int .u64 e, .int .u64 q], .slice a n c] w fun en w' =>
      en = .returned (.agg #[.string s, .int .u64 e, .int .u64 q, .int .i64 2, .slice a n c, .int .i64 0, .slice none 0 0, .bool false, .bool false]) ∧ Below w.heap.size w w' := by
  go_enter Yba.func14, Yba.ntmps14
  go_wp2
  exact bodyPost_ret (v := .agg #[.string s, .int .u64 e, .int .u64 q, .int .i64 2, .slice a n c, .int .i64 0, .slice none 0 0, .bool false, .bool false]) (by simp [results, Yba.results14, go_sem]) rfl ⟨rfl, ((Below.refl _ _).alloc (Nat.le_refl _) _).alloc (by simp) _⟩

set_option maxHeartbeats 400000 in
theorem indoubt_any (B : Nat) (st : Int) (w : World) (h3 : w.cell? ⟨B, 3, none⟩ = some (.int .i64 st)) :
    Calls Yba.prog 15 #[.pointer (some ⟨B, 0, none⟩)] w fun e w' => e = .returned (.bool (st == 2)) ∧ w' = w := by
  go_enter Yba.func15, Yba.ntmps15
  go_wp2
  go_ret
  exact ⟨rfl, rfl⟩

set_option maxHeartbeats 400000 in
theorem active_any (B : Nat) (st : Int) (w : World) (h3 : w.cell? ⟨B, 3, none⟩ = some (.int .i64 st)) :
    Calls Yba.prog 16 #[.pointer (some ⟨B, 0, none⟩)] w fun e w' => e = .returned (.bool (st == 0)) ∧ w' = w := by
  go_enter Yba.func16, Yba.ntmps16
  go_wp2
  go_ret
  exact ⟨rfl, rfl⟩

set_option maxHeartbeats 400000 in
theorem state_any (B : Nat) (st : Int) (w : World) (h3 : w.cell? ⟨B, 3, none⟩ = some (.int .i64 st)) :
    Calls Yba.prog 18 #[.pointer (some ⟨B, 0, none⟩)] w fun e w' => e = .returned (.int .i64 st) ∧ w' = w := by
  go_enter Yba.func18, Yba.ntmps18
  go_wp2
  go_ret
  exact ⟨rfl, rfl⟩

set_option maxHeartbeats 400000 in
theorem ending_any (B : Nat) (out : Int) (a : Option Addr) (n c : Nat) (w : World) (h5 : w.cell? ⟨B, 5, none⟩ = some (.int .i64 out)) (h6 : w.cell? ⟨B, 6, none⟩ = some (.slice a n c)) :
    Calls Yba.prog 17 #[.pointer (some ⟨B, 0, none⟩)] w fun e w' => e = .returned (.tuple #[.int .i64 out, .slice a n c]) ∧ ∃ k, w' = w.drewN k := by
  go_enter Yba.func17, Yba.ntmps17
  go_wp2
  go_quiet (fail)
  go_wp2
  go_ret2
  exact ⟨rfl, nq, rfl⟩

theorem below_end2 {B : Nat} {w w1 w2 : World} (hb : Below B w w1) (hb2 : Below w1.heap.size w1 w2) (hB : B ≤ w1.heap.size) (X : Obj) (k : Nat) : Below B w ((w2.alloc X).drewN k) :=
  below_drewN ((hb.trans (hb2.mono hB)).alloc (Nat.le_trans hB hb2.size) X) k
theorem StrRow.laid2 {w : World} {a : Option Addr} {n : Nat} {ss : Nat → ByteArray} (h : StrRow w a n ss) (X : Obj) (k : Nat) : StrRow ((w.alloc X).drewN k) a n ss :=
  h.below (below_drewN ((Below.refl _ _).alloc (Nat.le_refl _) X) k)

set_option maxRecDepth 100000 in
set_option maxHeartbeats 2000000 in
theorem second_pass (cm2 ak2 : Bool) (pa qa fa : Option Addr) (pn pc qn qc fn fc : Nat) (fs : Nat → ByteArray) (ps : Nat → ByteArray) (w : World) (hp : pn ≤ 1024) (hq : qn ≤ 1024) (hf : fn ≤ 1024)
    (hn : fa = none → fn = 0 ∧ fc = 0) (hs : StrRow w fa fn fs) (hps : StrRow w pa pn ps) :
    Calls Yba.prog 6 #[.bool true, .bool false, .bool cm2, .bool ak2, .slice pa pn pc, .slice qa qn qc, .slice fa fn fc] w fun e w' => e = .returned (.bool true) ∧ Below w.heap.size w w' := by
  have hC := clone_any fa fn fc w fs hf hn hs
  clear hn hs
  go_enter Yba.func6, Yba.ntmps6
  go_wp2_with (go_at_call 11; refine hC.mono ?_; rintro e w1 ⟨a1, c1, rfl, hs1, hb1⟩)
  refine (ready_any _ _ _ _ _ _ _).mono ?_
  rintro e w2 ⟨rfl, hb2⟩
  go_wp2_with fail
  refine (indoubt_any w2.heap.size 2 _ ?_).mono ?_
  · simp [go_sem]
  rintro e w' ⟨rfl, rfl⟩
  go_wp2_with fail
  refine (decide_prepared_pass w2.heap.size (.int .i64 0) (.slice none 0 0) pa pn pc _ ?_ ?_ ?_ ?_ ?_ ?_).mono ?_
  · simp [go_sem]
  · simp [go_sem]
  · simp [go_sem]
  · simp [go_sem]
  · simp [go_sem]
  · simp [go_sem]
  rintro e w' ⟨rfl, rfl⟩
  unfold ended
  go_wp2_with fail
  refine (indoubt_any w2.heap.size 3 _ ?_).mono ?_
  · simp [go_sem]
  rintro e w' ⟨rfl, rfl⟩
  go_wp2_with fail
  refine (active_any w2.heap.size 3 _ ?_).mono ?_
  · simp [go_sem]
  rintro e w' ⟨rfl, rfl⟩
  go_wp2_with fail
  refine (ending_any w2.heap.size 1 pa pn pc _ ?_ ?_).mono ?_
  · simp [go_sem]
  · simp [go_sem]
  rintro e w' ⟨rfl, k1, rfl⟩
  go_wp2_with fail
  refine (decide_ending w2.heap.size cm2 ak2 qa qn qc _ ?_).mono ?_
  · simp [go_sem]
  rintro e w' ⟨rfl, rfl⟩
  go_wp2_with fail
  refine (ending_any w2.heap.size 1 pa pn pc _ ?_ ?_).mono ?_
  · simp [go_sem]
  · simp [go_sem]
  rintro e w' ⟨rfl, k2, rfl⟩
  go_wp2_with fail
  refine (ceq_same pa pn pc _ ps hp (((hps.below hb1).below hb2).laid2 _ _)).mono ?_
  rintro e w' ⟨rfl, k3, rfl⟩
  go_wp2_with fail
  refine (state_any w2.heap.size 3 _ ?_).mono ?_
  · simp [go_sem]
  rintro e w' ⟨rfl, rfl⟩
  go_wp2
  go_ret
  exact ⟨rfl, below_end2 hb1 hb2 hb1.size _ _⟩

set_option maxRecDepth 100000 in
set_option maxHeartbeats 2000000 in
theorem second_t (cm2 ak2 : Bool) (pa qa fa : Option Addr) (pn pc qn qc fn fc : Nat) (fs : Nat → ByteArray) (w : World) (hp : pn ≤ 1024) (hq : qn ≤ 1024) (hf : fn ≤ 1024)
    (hn : fa = none → fn = 0 ∧ fc = 0) (hs : StrRow w fa fn fs) :
    Calls Yba.prog 6 #[.bool true, .bool true, .bool cm2, .bool ak2, .slice pa pn pc, .slice qa qn qc, .slice fa fn fc] w fun e w' => e = .returned (.bool true) ∧ Below w.heap.size w w' := by
  have hC := clone_any fa fn fc w fs hf hn hs
  clear hn hs
  go_enter Yba.func6, Yba.ntmps6
  go_wp2_with (go_at_call 11; refine hC.mono ?_; rintro e w1 ⟨a1, c1, rfl, hs1, hb1⟩)
  refine (ready_any _ _ _ _ _ _ _).mono ?_
  rintro e w2 ⟨rfl, hb2⟩
  go_wp2_with fail
  refine (indoubt_any w2.heap.size 2 _ ?_).mono ?_
  · simp [go_sem]
  rintro e w' ⟨rfl, rfl⟩
  go_wp2_with fail
  refine (decide_prepared_keep w2.heap.size true true rfl (.int .i64 0) (.slice none 0 0) a1 fn c1 pa pn pc _ ?_ ?_ ?_ ?_ ?_ ?_ ?_).mono ?_
  · simp [go_sem]
  · simp [go_sem]
  · simp [go_sem]
  · simp [go_sem]
  · simp [go_sem]
  · simp [go_sem]
  · simp [go_sem]
  rintro e w' ⟨rfl, rfl⟩
  unfold ended
  go_wp2_with fail
  refine (indoubt_any w2.heap.size 3 _ ?_).mono ?_
  · simp [go_sem]
  rintro e w' ⟨rfl, rfl⟩
  go_wp2_with fail
  refine (active_any w2.heap.size 3 _ ?_).mono ?_
  · simp [go_sem]
  rintro e w' ⟨rfl, rfl⟩
  go_wp2_with fail
  refine (ending_any w2.heap.size 1 a1 fn c1 _ ?_ ?_).mono ?_
  · simp [go_sem]
  · simp [go_sem]
  rintro e w' ⟨rfl, k1, rfl⟩
  go_wp2_with fail
  refine (decide_ending w2.heap.size cm2 ak2 qa qn qc _ ?_).mono ?_
  · simp [go_sem]
  rintro e w' ⟨rfl, rfl⟩
  go_wp2_with fail
  refine (ending_any w2.heap.size 1 a1 fn c1 _ ?_ ?_).mono ?_
  · simp [go_sem]
  · simp [go_sem]
  rintro e w' ⟨rfl, k2, rfl⟩
  go_wp2_with fail
  refine (ceq_same a1 fn c1 _ fs hf ((hs1.below hb2).laid2 _ _)).mono ?_
  rintro e w' ⟨rfl, k3, rfl⟩
  go_wp2_with fail
  refine (state_any w2.heap.size 3 _ ?_).mono ?_
  · simp [go_sem]
  rintro e w' ⟨rfl, rfl⟩
  go_wp2
  go_ret
  exact ⟨rfl, below_end2 hb1 hb2 hb1.size _ _⟩

set_option maxRecDepth 100000 in
set_option maxHeartbeats 2000000 in
theorem second_f (ak : Bool) (cm2 ak2 : Bool) (pa qa fa : Option Addr) (pn pc qn qc fn fc : Nat) (fs : Nat → ByteArray) (w : World) (hp : pn ≤ 1024) (hq : qn ≤ 1024) (hf : fn ≤ 1024)
    (hn : fa = none → fn = 0 ∧ fc = 0) (hs : StrRow w fa fn fs) :
    Calls Yba.prog 6 #[.bool false, .bool ak, .bool cm2, .bool ak2, .slice pa pn pc, .slice qa qn qc, .slice fa fn fc] w fun e w' => e = .returned (.bool true) ∧ Below w.heap.size w w' := by
  have hC := clone_any fa fn fc w fs hf hn hs
  clear hn hs
  go_enter Yba.func6, Yba.ntmps6
  go_wp2_with (go_at_call 11; refine hC.mono ?_; rintro e w1 ⟨a1, c1, rfl, hs1, hb1⟩)
  refine (ready_any _ _ _ _ _ _ _).mono ?_
  rintro e w2 ⟨rfl, hb2⟩
  go_wp2_with fail
  refine (indoubt_any w2.heap.size 2 _ ?_).mono ?_
  · simp [go_sem]
  rintro e w' ⟨rfl, rfl⟩
  go_wp2_with fail
  refine (decide_prepared_keep w2.heap.size false ak rfl (.int .i64 0) (.slice none 0 0) a1 fn c1 pa pn pc _ ?_ ?_ ?_ ?_ ?_ ?_ ?_).mono ?_
  · simp [go_sem]
  · simp [go_sem]
  · simp [go_sem]
  · simp [go_sem]
  · simp [go_sem]
  · simp [go_sem]
  · simp [go_sem]
  rintro e w' ⟨rfl, rfl⟩
  unfold ended
  go_wp2_with fail
  refine (indoubt_any w2.heap.size 3 _ ?_).mono ?_
  · simp [go_sem]
  rintro e w' ⟨rfl, rfl⟩
  go_wp2_with fail
  refine (active_any w2.heap.size 3 _ ?_).mono ?_
  · simp [go_sem]
  rintro e w' ⟨rfl, rfl⟩
  go_wp2_with fail
  refine (ending_any w2.heap.size 2 a1 fn c1 _ ?_ ?_).mono ?_
  · simp [go_sem]
  · simp [go_sem]
  rintro e w' ⟨rfl, k1, rfl⟩
  go_wp2_with fail
  refine (decide_ending w2.heap.size cm2 ak2 qa qn qc _ ?_).mono ?_
  · simp [go_sem]
  rintro e w' ⟨rfl, rfl⟩
  go_wp2_with fail
  refine (ending_any w2.heap.size 2 a1 fn c1 _ ?_ ?_).mono ?_
  · simp [go_sem]
  · simp [go_sem]
  rintro e w' ⟨rfl, k2, rfl⟩
  go_wp2_with fail
  refine (ceq_same a1 fn c1 _ fs hf ((hs1.below hb2).laid2 _ _)).mono ?_
  rintro e w' ⟨rfl, k3, rfl⟩
  go_wp2_with fail
  refine (state_any w2.heap.size 3 _ ?_).mono ?_
  · simp [go_sem]
  rintro e w' ⟨rfl, rfl⟩
  go_wp2
  go_ret
  exact ⟨rfl, below_end2 hb1 hb2 hb1.size _ _⟩

end Go.Proofs.Ybulkfue
