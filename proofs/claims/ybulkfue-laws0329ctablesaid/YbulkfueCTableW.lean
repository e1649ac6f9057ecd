/-
  LawS0329CTable: the walk, a theorem a case (which state the branch is in; commit; asked).
-/
import Derived.Test.YbulkfueCBase
namespace Go.Proofs.Ybulkfue
open Go.RowKit

theorem below_end {B : Nat} {w w1 : World} (hb : Below B w w1) (hB : B ≤ w1.heap.size) (X : Obj) (k : Nat) : Below B w ((w1.alloc X).drewN k) := below_drewN (hb.alloc hB X) k
theorem StrRow.laid0 {w : World} {a : Option Addr} {n : Nat} {ss : Nat → ByteArray} (h : StrRow w a n ss) (X : Obj) : StrRow (w.alloc X) a n ss :=
  h.below ((Below.refl _ _).alloc (Nat.le_refl _) X)
theorem StrRow.laid {w : World} {a : Option Addr} {n : Nat} {ss : Nat → ByteArray} (h : StrRow w a n ss) (X : Obj) (k : Nat) : StrRow ((w.alloc X).drewN k) a n ss :=
  h.below (below_drewN ((Below.refl _ _).alloc (Nat.le_refl _) X) k)

set_option maxRecDepth 100000 in
set_option maxHeartbeats 400000 in
theorem table_zero (sel : Int) (cm ak sk : Bool) (pa fa : Option Addr) (pn pc fn fc : Nat) (fs : Nat → ByteArray) (w : World) (h0 : 0 ≤ sel) (h1 : sel ≤ 255) (hp : pn ≤ 1024) (hf : fn ≤ 1024)
    (hn : fa = none → fn = 0 ∧ fc = 0) (hs : StrRow w fa fn fs) (hk : sel % 5 = 0) :
    Calls Yba.prog 5 #[.int .u8 sel, .bool cm, .bool ak, .bool sk, .slice pa pn pc, .slice fa fn fc] w fun e w' => e = .returned (.bool true) ∧ Below w.heap.size w w' := by
  have hC := clone_any fa fn fc w fs hf hn hs
  clear hn hs
  go_enter Yba.func5, Yba.ntmps5
  go_wp2_with (first | (go_at_call 11; refine hC.mono ?_; rintro e w1 ⟨a1, c1, rfl, hs1, hb1⟩) | (go_at_call 12; refine (decide_nil _ _ _ _ _ _).mono ?_; rintro e w' ⟨rfl, rfl⟩))
  go_ret
  exact ⟨rfl, hb1⟩

set_option maxRecDepth 100000 in
set_option maxHeartbeats 2000000 in
theorem table_active_t (sel : Int) (ak sk : Bool) (pa fa : Option Addr) (pn pc fn fc : Nat) (fs : Nat → ByteArray) (w : World) (h0 : 0 ≤ sel) (h1 : sel ≤ 255) (hp : pn ≤ 1024) (hf : fn ≤ 1024)
    (hn : fa = none → fn = 0 ∧ fc = 0) (hs : StrRow w fa fn fs) (hk : sel % 5 = 1) :
    Calls Yba.prog 5 #[.int .u8 sel, .bool true, .bool ak, .bool sk, .slice pa pn pc, .slice fa fn fc] w fun e w' => e = .returned (.bool true) ∧ Below w.heap.size w w' := by
  have hC := clone_any fa fn fc w fs hf hn hs
  clear hn hs
  go_enter Yba.func5, Yba.ntmps5
  go_wp2_with (go_at_call 11; refine hC.mono ?_; rintro e w1 ⟨a1, c1, rfl, hs1, hb1⟩)
  refine (decide_active w1.heap.size true ak pa pn pc _ ?_).mono ?_
  · simp [go_sem]
  rintro e w' ⟨rfl, rfl⟩
  go_wp2_with fail
  refine (ceq_none none 0 _).mono ?_
  rintro e w' ⟨rfl, k1, rfl⟩
  go_wp2_with fail
  refine (ceq_same a1 fn c1 _ fs hf (hs1.laid _ _)).mono ?_
  rintro e w' ⟨rfl, k2, rfl⟩
  go_wp2
  go_ret
  exact ⟨rfl, below_end hb1 hb1.size _ _⟩

set_option maxRecDepth 100000 in
set_option maxHeartbeats 2000000 in
theorem table_active_f (sel : Int) (ak sk : Bool) (pa fa : Option Addr) (pn pc fn fc : Nat) (fs : Nat → ByteArray) (w : World) (h0 : 0 ≤ sel) (h1 : sel ≤ 255) (hp : pn ≤ 1024) (hf : fn ≤ 1024)
    (hn : fa = none → fn = 0 ∧ fc = 0) (hs : StrRow w fa fn fs) (hk : sel % 5 = 1) :
    Calls Yba.prog 5 #[.int .u8 sel, .bool false, .bool ak, .bool sk, .slice pa pn pc, .slice fa fn fc] w fun e w' => e = .returned (.bool true) ∧ Below w.heap.size w w' := by
  have hC := clone_any fa fn fc w fs hf hn hs
  clear hn hs
  go_enter Yba.func5, Yba.ntmps5
  go_wp2_with (go_at_call 11; refine hC.mono ?_; rintro e w1 ⟨a1, c1, rfl, hs1, hb1⟩)
  refine (decide_active w1.heap.size false ak pa pn pc _ ?_).mono ?_
  · simp [go_sem]
  rintro e w' ⟨rfl, rfl⟩
  go_wp2_with fail
  refine (ceq_none none 0 _).mono ?_
  rintro e w' ⟨rfl, k1, rfl⟩
  go_wp2_with fail
  refine (ceq_same a1 fn c1 _ fs hf (hs1.laid _ _)).mono ?_
  rintro e w' ⟨rfl, k2, rfl⟩
  go_wp2
  go_ret
  exact ⟨rfl, below_end hb1 hb1.size _ _⟩

set_option maxRecDepth 100000 in
set_option maxHeartbeats 2000000 in
theorem table_prep_t (sel : Int) (ak sk : Bool) (pa fa : Option Addr) (pn pc fn fc : Nat) (fs : Nat → ByteArray) (w : World) (h0 : 0 ≤ sel) (h1 : sel ≤ 255) (hp : pn ≤ 1024) (hf : fn ≤ 1024)
    (hn : fa = none → fn = 0 ∧ fc = 0) (hs : StrRow w fa fn fs) (hk : sel % 5 = 2) :
    Calls Yba.prog 5 #[.int .u8 sel, .bool true, .bool ak, .bool sk, .slice pa pn pc, .slice fa fn fc] w fun e w' => e = .returned (.bool true) ∧ Below w.heap.size w w' := by
  have hC := clone_any fa fn fc w fs hf hn hs
  clear hn hs
  go_enter Yba.func5, Yba.ntmps5
  go_wp2_with (go_at_call 11; refine hC.mono ?_; rintro e w1 ⟨a1, c1, rfl, hs1, hb1⟩)
  refine (decide_preparing_commit w1.heap.size ak pa pn pc _ ?_).mono ?_
  · simp [go_sem]
  rintro e w' ⟨rfl, rfl⟩
  go_wp2_with fail
  refine (ceq_none none 0 _).mono ?_
  rintro e w' ⟨rfl, k1, rfl⟩
  go_wp2_with fail
  refine (ceq_same a1 fn c1 _ fs hf (hs1.laid _ _)).mono ?_
  rintro e w' ⟨rfl, k2, rfl⟩
  go_wp2
  go_ret
  exact ⟨rfl, below_end hb1 hb1.size _ _⟩

set_option maxRecDepth 100000 in
set_option maxHeartbeats 2000000 in
theorem table_prep_f (sel : Int) (ak sk : Bool) (pa fa : Option Addr) (pn pc fn fc : Nat) (fs : Nat → ByteArray) (w : World) (h0 : 0 ≤ sel) (h1 : sel ≤ 255) (hp : pn ≤ 1024) (hf : fn ≤ 1024)
    (hn : fa = none → fn = 0 ∧ fc = 0) (hs : StrRow w fa fn fs) (hk : sel % 5 = 2) :
    Calls Yba.prog 5 #[.int .u8 sel, .bool false, .bool ak, .bool sk, .slice pa pn pc, .slice fa fn fc] w fun e w' => e = .returned (.bool true) ∧ Below w.heap.size w w' := by
  have hC := clone_any fa fn fc w fs hf hn hs
  clear hn hs
  go_enter Yba.func5, Yba.ntmps5
  go_wp2_with (go_at_call 11; refine hC.mono ?_; rintro e w1 ⟨a1, c1, rfl, hs1, hb1⟩)
  refine (decide_preparing_abort w1.heap.size ak (.bool false) pa pn pc _ ?_ ?_ ?_).mono ?_
  · simp [go_sem]
  · simp [go_sem]
  · simp [go_sem]
  rintro e w' ⟨rfl, rfl⟩
  go_wp2_with fail
  refine (ceq_none none 0 _).mono ?_
  rintro e w' ⟨rfl, k1, rfl⟩
  go_wp2_with fail
  refine (ceq_same a1 fn c1 _ fs hf (hs1.laid _ _)).mono ?_
  rintro e w' ⟨rfl, k2, rfl⟩
  go_wp2
  go_ret
  exact ⟨rfl, below_end hb1 hb1.size _ _⟩

set_option maxRecDepth 100000 in
set_option maxHeartbeats 2000000 in
theorem table_ending (sel : Int) (cm ak sk : Bool) (pa fa : Option Addr) (pn pc fn fc : Nat) (fs : Nat → ByteArray) (w : World) (h0 : 0 ≤ sel) (h1 : sel ≤ 255) (hp : pn ≤ 1024) (hf : fn ≤ 1024)
    (hn : fa = none → fn = 0 ∧ fc = 0) (hs : StrRow w fa fn fs) (hk : sel % 5 = 4) :
    Calls Yba.prog 5 #[.int .u8 sel, .bool cm, .bool ak, .bool sk, .slice pa pn pc, .slice fa fn fc] w fun e w' => e = .returned (.bool true) ∧ Below w.heap.size w w' := by
  have hC := clone_any fa fn fc w fs hf hn hs
  clear hn hs
  go_enter Yba.func5, Yba.ntmps5
  go_wp2_with (go_at_call 11; refine hC.mono ?_; rintro e w1 ⟨a1, c1, rfl, hs1, hb1⟩)
  refine (decide_ending w1.heap.size cm ak pa pn pc _ ?_).mono ?_
  · simp [go_sem]
  rintro e w' ⟨rfl, rfl⟩
  go_wp2_with fail
  refine (ceq_none none 0 _).mono ?_
  rintro e w' ⟨rfl, k1, rfl⟩
  go_wp2_with fail
  refine (ceq_same a1 fn c1 _ fs hf (hs1.laid _ _)).mono ?_
  rintro e w' ⟨rfl, k2, rfl⟩
  go_wp2
  go_ret
  exact ⟨rfl, below_end hb1 hb1.size _ _⟩

set_option maxRecDepth 100000 in
set_option maxHeartbeats 2000000 in
theorem table_ready_pass (sel : Int) (sk : Bool) (pa fa : Option Addr) (pn pc fn fc : Nat) (fs : Nat → ByteArray) (ps : Nat → ByteArray) (w : World) (h0 : 0 ≤ sel) (h1 : sel ≤ 255) (hp : pn ≤ 1024) (hf : fn ≤ 1024)
    (hn : fa = none → fn = 0 ∧ fc = 0) (hs : StrRow w fa fn fs) (hps : StrRow w pa pn ps) (hk : sel % 5 = 3) :
    Calls Yba.prog 5 #[.int .u8 sel, .bool true, .bool false, .bool sk, .slice pa pn pc, .slice fa fn fc] w fun e w' => e = .returned (.bool true) ∧ Below w.heap.size w w' := by
  have hC := clone_any fa fn fc w fs hf hn hs
  clear hn hs
  go_enter Yba.func5, Yba.ntmps5
  go_wp2_with (go_at_call 11; refine hC.mono ?_; rintro e w1 ⟨a1, c1, rfl, hs1, hb1⟩)
  refine (decide_prepared_pass w1.heap.size (.int .i64 0) (.slice none 0 0) pa pn pc _ ?_ ?_ ?_ ?_ ?_ ?_).mono ?_
  · simp [go_sem]
  · simp [go_sem]
  · simp [go_sem]
  · simp [go_sem]
  · simp [go_sem]
  · simp [go_sem]
  rintro e w' ⟨rfl, rfl⟩
  unfold ended
  go_wp2_with fail
  refine (ceq_same pa pn pc _ ps hp ((hps.below hb1).laid0 _)).mono ?_
  rintro e w' ⟨rfl, k1, rfl⟩
  go_wp2_with fail
  refine (ceq_same a1 fn c1 _ fs hf (hs1.laid _ _)).mono ?_
  rintro e w' ⟨rfl, k2, rfl⟩
  go_wp2
  go_ret
  exact ⟨rfl, below_end hb1 hb1.size _ _⟩

set_option maxRecDepth 100000 in
set_option maxHeartbeats 2000000 in
theorem table_ready_t (sel : Int) (sk : Bool) (pa fa : Option Addr) (pn pc fn fc : Nat) (fs : Nat → ByteArray) (w : World) (h0 : 0 ≤ sel) (h1 : sel ≤ 255) (hp : pn ≤ 1024) (hf : fn ≤ 1024)
    (hn : fa = none → fn = 0 ∧ fc = 0) (hs : StrRow w fa fn fs) (hk : sel % 5 = 3) :
    Calls Yba.prog 5 #[.int .u8 sel, .bool true, .bool true, .bool sk, .slice pa pn pc, .slice fa fn fc] w fun e w' => e = .returned (.bool true) ∧ Below w.heap.size w w' := by
  have hC := clone_any fa fn fc w fs hf hn hs
  clear hn hs
  go_enter Yba.func5, Yba.ntmps5
  go_wp2_with (go_at_call 11; refine hC.mono ?_; rintro e w1 ⟨a1, c1, rfl, hs1, hb1⟩)
  refine (decide_prepared_keep w1.heap.size true true rfl (.int .i64 0) (.slice none 0 0) a1 fn c1 pa pn pc _ ?_ ?_ ?_ ?_ ?_ ?_ ?_).mono ?_
  · simp [go_sem]
  · simp [go_sem]
  · simp [go_sem]
  · simp [go_sem]
  · simp [go_sem]
  · simp [go_sem]
  · simp [go_sem]
  rintro e w' ⟨rfl, rfl⟩
  unfold ended
  go_wp2_with fail
  refine (ceq_same a1 fn c1 _ fs hf (hs1.laid _ _)).mono ?_
  rintro e w' ⟨rfl, k1, rfl⟩
  go_wp2_with fail
  refine (ceq_same a1 fn c1 _ fs hf (hs1.laid _ _)).mono ?_
  rintro e w' ⟨rfl, k2, rfl⟩
  go_wp2
  go_ret
  exact ⟨rfl, below_end hb1 hb1.size _ _⟩

set_option maxRecDepth 100000 in
set_option maxHeartbeats 2000000 in
theorem table_ready_f (sel : Int) (ak sk : Bool) (pa fa : Option Addr) (pn pc fn fc : Nat) (fs : Nat → ByteArray) (w : World) (h0 : 0 ≤ sel) (h1 : sel ≤ 255) (hp : pn ≤ 1024) (hf : fn ≤ 1024)
    (hn : fa = none → fn = 0 ∧ fc = 0) (hs : StrRow w fa fn fs) (hk : sel % 5 = 3) :
    Calls Yba.prog 5 #[.int .u8 sel, .bool false, .bool ak, .bool sk, .slice pa pn pc, .slice fa fn fc] w fun e w' => e = .returned (.bool true) ∧ Below w.heap.size w w' := by
  have hC := clone_any fa fn fc w fs hf hn hs
  clear hn hs
  go_enter Yba.func5, Yba.ntmps5
  go_wp2_with (go_at_call 11; refine hC.mono ?_; rintro e w1 ⟨a1, c1, rfl, hs1, hb1⟩)
  refine (decide_prepared_keep w1.heap.size false ak rfl (.int .i64 0) (.slice none 0 0) a1 fn c1 pa pn pc _ ?_ ?_ ?_ ?_ ?_ ?_ ?_).mono ?_
  · simp [go_sem]
  · simp [go_sem]
  · simp [go_sem]
  · simp [go_sem]
  · simp [go_sem]
  · simp [go_sem]
  · simp [go_sem]
  rintro e w' ⟨rfl, rfl⟩
  unfold ended
  go_wp2_with fail
  refine (ceq_same a1 fn c1 _ fs hf (hs1.laid _ _)).mono ?_
  rintro e w' ⟨rfl, k1, rfl⟩
  go_wp2_with fail
  refine (ceq_same a1 fn c1 _ fs hf (hs1.laid _ _)).mono ?_
  rintro e w' ⟨rfl, k2, rfl⟩
  go_wp2
  go_ret
  exact ⟨rfl, below_end hb1 hb1.size _ _⟩
end Go.Proofs.Ybulkfue
