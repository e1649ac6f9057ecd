/-
  The callees of the two laws of package protocol (LawS0329CTable, LawS0329CSecondWaits): a contract a function.
-/
import Derived.Test.YbulkfueRows
import Derived.WalkKit
import Derived.WalkSpells
import Derived.WalkLawsBesides
import Derived.Laws.CopyOwn
import Derived.Deep.OwnRows
import Derived.Deep.QuietTactic
import Derived.BigQuiet
import Derived.Deep.RegionWith
namespace Go.Proofs.Ybulkfue
open Go.RowKit
open Go.WideShapes (add_plain)

theorem Yba.cells9 : Yba.prog.cellsOf 9 = 1 := by kernel_rfl
theorem Yba.info9 : (Yba.prog.info? 9).map (fun i => (i.zero, i.size, i.bytes)) = some (some (.string ByteArray.empty), 1, 16) := by kernel_rfl
theorem Yba.size9 : (Yba.prog.info? 9).map (·.size) = some 1 := by kernel_rfl

/-- A slice of strings as the walks want it: its first 'n' cells hold the strings 'ss i'. -/
def StrRow (w : World) (a : Option Addr) (n : Nat) (ss : Nat → ByteArray) : Prop :=
  (a = none → n = 0) ∧ ∀ x, a = some x → ∀ i, i < n → w.cell? (x.add i) = some (.string (ss i))

set_option maxHeartbeats 400000 in
theorem clone_nil (w : World) : Calls Yba.prog 11 #[.slice none 0 0] w fun e w' => e = .returned (.slice none 0 0) ∧ w' = w := by
  have hq := fun wx a n c => Lib.run_eql_slice_nil (P := Yba.prog) wx 50 9 a n c 0 0 Yba.underlying50
  go_enter Yba.func11, Yba.ntmps11
  go_wp2
  go_ret
  exact ⟨rfl, rfl⟩

/-- 'copy' of n strings into a new row of n cells: what the walk of zzs0329cclone wants. -/
theorem clone_copy (a : Addr) (n c : Nat) (w : World) (ss : Nat → ByteArray) (hc : ∀ i, i < n → w.cell? (a.add i) = some (.string (ss i))) :
    ∃ w2, (Builtin.copy_ #[50, 50] 3 #[.slice (some ⟨w.heap.size, 0, none⟩) n n, .slice (some a) n c]).run Yba.prog (w.alloc (.cells (madeCells #[.string ByteArray.empty] n) 9)) = .ok (goInt n) w2 ∧
      (∀ i, i < n → w2.cell? ⟨w.heap.size, i, none⟩ = some (.string (ss i))) ∧ Below w.heap.size w w2 ∧ w2.heap.size = w.heap.size + 1 := by
  obtain ⟨xs, hxs⟩ : ∃ xs : List Value, xs = (List.range n).map fun i => .string (ss i) := ⟨_, rfl⟩
  have hxl : xs.length = n := by simp [hxs]
  have hx1 : ∀ v ∈ xs, v.oneCell' = true := by intro v hv; rw [hxs] at hv; simp at hv; obtain ⟨i, _, rfl⟩ := hv; rfl
  have hxg : ∀ j, j < n → xs[j]? = some (.string (ss j)) := by intro j hj; rw [hxs]; simp [hj]
  have hxc : ∀ j v, xs[j]? = some v → (w.alloc (.cells (madeCells #[.string ByteArray.empty] n) 9)).cell? (a.add j) = some v := by
    intro j v hv
    have hj : j < n := by have := (List.getElem?_eq_some_iff.1 hv).1; omega
    rw [hxg j hj] at hv
    have h0 := hc j hj
    rw [hv] at h0
    have hb := block_lt_of_cell h0
    rw [← h0]
    exact World.cell?_of_block (Below.heap_alloc _ _ _ hb)
  have hg := heap_alloc_new w (.cells (madeCells #[.string ByteArray.empty] n) 9)
  have hr := run_copy_row (P := Yba.prog) (w.alloc (.cells (madeCells #[.string ByteArray.empty] n) 9)) 50 50 3 9 w.heap.size 0 n n a n c _ 9 xs Yba.underlying50 Yba.size9 hg (by rw [hxl]; exact (Nat.min_self n).symm) hxc (by simp [size_madeCells, hxl]) hx1
  refine ⟨_, by rw [hr, hxl], ?_, below_setRow ((Below.refl _ _).alloc (Nat.le_refl _) _) (Nat.le_refl _) _, by simp⟩
  intro i hi
  rw [cell_of_row _ _ _ _ _ _ (setRow_heap _ _ _ _ 9 _ hg)]
  have : List.drop n (madeCells #[.string ByteArray.empty] n).toList = [] := by simp [size_madeCells]
  simp [this, hxg i hi]

set_option maxHeartbeats 400000 in
theorem clone_some (a : Addr) (n c : Nat) (w : World) (ss : Nat → ByteArray) (hn : n ≤ 1024) (hc : ∀ i, i < n → w.cell? (a.add i) = some (.string (ss i))) :
    Calls Yba.prog 11 #[.slice (some a) n c] w fun e w' => e = .returned (.slice (some ⟨w.heap.size, 0, none⟩) n n) ∧
      (∀ i, i < n → w'.cell? ⟨w.heap.size, i, none⟩ = some (.string (ss i))) ∧ Below w.heap.size w w' ∧ w'.heap.size = w.heap.size + 1 := by
  have hmk := run_make_row' (P := Yba.prog) 50 9 (.string ByteArray.empty) 16 Yba.underlying50 Yba.info9 rfl .i64 .i64 n (by omega) (by omega)
  have hq := fun wx a n c => Lib.run_eql_slice_nil (P := Yba.prog) wx 50 9 a n c 0 0 Yba.underlying50
  obtain ⟨w2, hcp, h2, hb2, hs2⟩ := clone_copy a n c w ss hc
  clear hc
  have H2 : Hid ((∀ i, i < n → w2.cell? ⟨w.heap.size, i, none⟩ = some (.string (ss i))) ∧ Below w.heap.size w w2 ∧ w2.heap.size = w.heap.size + 1) := ⟨h2, hb2, hs2⟩
  clear h2 hb2 hs2
  go_enter Yba.func11, Yba.ntmps11
  go_wp2
  go_ret
  exact ⟨rfl, H2.out⟩

/-- Both ways of zzs0329cclone: what it hands back is a slice of the same strings; nothing old has turned. -/
theorem clone_any (a : Option Addr) (n c : Nat) (w : World) (ss : Nat → ByteArray) (hn : n ≤ 1024) (h0 : a = none → n = 0 ∧ c = 0) (hs : StrRow w a n ss) :
    Calls Yba.prog 11 #[.slice a n c] w fun e w' => ∃ a' c', e = .returned (.slice a' n c') ∧ StrRow w' a' n ss ∧ Below w.heap.size w w' := by
  cases a with
  | none =>
    obtain ⟨rfl, rfl⟩ := h0 rfl
    exact (clone_nil w).mono fun e w' ⟨he, hw⟩ => ⟨none, 0, he, ⟨fun _ => rfl, (fun _ h => by cases h)⟩, by rw [hw]; exact Below.refl _ _⟩
  | some x =>
    refine (clone_some x n c w ss hn (hs.2 x rfl)).mono fun e w' ⟨he, hc, hb, _⟩ => ⟨_, _, he, ⟨(fun h => by cases h), ?_⟩, hb⟩
    intro y hy i hi
    cases hy
    rw [add_plain, Nat.zero_add]
    exact hc i hi

theorem StrRow.below {w w' : World} {a : Option Addr} {n : Nat} {ss : Nat → ByteArray} (h : StrRow w a n ss) (hb : Below w.heap.size w w') : StrRow w' a n ss :=
  ⟨h.1, fun x hx i hi => (hb.cell (block_lt_of_cell (h.2 x hx i hi))).trans (h.2 x hx i hi)⟩

/-- zzs0329ceq of a slice of strings and itself: true; the world but for draws. -/
theorem ceq_none (a : Option Addr) (c : Nat) (w : World) : Calls Yba.prog 13 #[.slice a 0 c, .slice a 0 c] w fun e w' => e = .returned (.bool true) ∧ ∃ k, w' = w.drewN k := by
  have hq := fun wx a n c => Lib.run_eql_slice_nil (P := Yba.prog) wx 50 9 a n c 0 0 Yba.underlying50
  go_enter Yba.func13, Yba.ntmps13
  go_wp2
  refine wp_loop_rounds 1 ?_
  rw [rounds_succ]
  go_wp2
  go_ret
  exact ⟨rfl, 0, rfl⟩

set_option maxHeartbeats 400000 in
theorem ceq_some (b off n c : Nat) (w : World) (ss : Nat → ByteArray) (hn : n ≤ 1024) (hc : ∀ i, i < n → w.cell? ⟨b, off + i, none⟩ = some (.string (ss i))) :
    Calls Yba.prog 13 #[.slice (some ⟨b, off, none⟩) n c, .slice (some ⟨b, off, none⟩) n c] w fun e w' => e = .returned (.bool true) ∧ ∃ k, w' = w.drewN k := by
  have hq := fun wx a n c => Lib.run_eql_slice_nil (P := Yba.prog) wx 50 9 a n c 0 0 Yba.underlying50
  go_enter Yba.func13, Yba.ntmps13
  go_wp2
  go_loopw [5] (fun i wr => ∃ k : Nat, k ≤ n ∧ i = .int .i64 k ∧ ∃ m, wr = w.drewN m) (fun i _ => n - (intOf i).toNat)
  case atStart => exact ⟨0, Nat.zero_le _, rfl, 0, rfl⟩
  case round =>
    obtain ⟨k, hk, rfl, m, rfl⟩ := hrel
    by_cases hlt : k < n
    · have hck := hc k hlt
      have h0 : (0 : Int) ≤ (k : Int) := by omega
      have h1 : (k : Int) < (n : Int) := by omega
      clear hc
      go_wp2
      go_quiet (fail)
      go_wp2
      go_roundw
      case rel => exact ⟨k + 1, by omega, by go_num, m + nq, rfl⟩
      case measure => simp [intOf]; omega
    · go_wp2
      go_ret
      exact ⟨rfl, m, rfl⟩

/-- The two together: a slice of strings (nil or not) and itself. -/
theorem ceq_same (a : Option Addr) (n c : Nat) (w : World) (ss : Nat → ByteArray) (hn : n ≤ 1024) (hs : StrRow w a n ss) :
    Calls Yba.prog 13 #[.slice a n c, .slice a n c] w fun e w' => e = .returned (.bool true) ∧ ∃ k, w' = w.drewN k := by
  by_cases h0 : n = 0
  · subst h0; exact ceq_none a c w
  · cases a with
    | none => exact absurd (hs.1 rfl) h0
    | some x =>
      obtain ⟨b, off, spot⟩ := x
      have hspot : spot = none := by simpa [Addr.add] using World.cell?_spot (hs.2 _ rfl 0 (by omega))
      subst hspot
      exact ceq_some b off n c w ss hn (fun i hi => by rw [← add_plain]; exact hs.2 _ rfl i hi)

/-! ### Decide -/
set_option maxHeartbeats 400000 in
theorem decide_nil (cm ak : Bool) (a : Option Addr) (n c : Nat) (w : World) :
    Calls Yba.prog 12 #[.pointer none, .bool cm, .bool ak, .slice a n c] w fun e w' => e = .returned (.tuple #[.int .i64 0, .bool false]) ∧ w' = w := by
  go_enter Yba.func12, Yba.ntmps12
  go_wp2
  go_ret2
  exact ⟨rfl, rfl⟩

set_option maxHeartbeats 400000 in
theorem decide_active (B : Nat) (cm ak : Bool) (a : Option Addr) (n c : Nat) (w : World) (h3 : w.cell? ⟨B, 3, none⟩ = some (.int .i64 0)) :
    Calls Yba.prog 12 #[.pointer (some ⟨B, 0, none⟩), .bool cm, .bool ak, .slice a n c] w fun e w' => e = .returned (.tuple #[.int .i64 (if cm then 7 else 1), .bool false]) ∧ w' = w := by
  cases cm
  all_goals
    go_enter Yba.func12, Yba.ntmps12
    go_wp2
    go_ret2
    exact ⟨rfl, rfl⟩

set_option maxHeartbeats 400000 in
theorem decide_preparing_commit (B : Nat) (ak : Bool) (a : Option Addr) (n c : Nat) (w : World) (h3 : w.cell? ⟨B, 3, none⟩ = some (.int .i64 1)) :
    Calls Yba.prog 12 #[.pointer (some ⟨B, 0, none⟩), .bool true, .bool ak, .slice a n c] w fun e w' => e = .returned (.tuple #[.int .i64 7, .bool false]) ∧ w' = w := by
  go_enter Yba.func12, Yba.ntmps12
  go_wp2
  go_ret2
  exact ⟨rfl, rfl⟩

set_option maxHeartbeats 400000 in
theorem decide_preparing_abort (B : Nat) (ak : Bool) (x8 : Value) (a : Option Addr) (n c : Nat) (w : World) (h3 : w.cell? ⟨B, 3, none⟩ = some (.int .i64 1)) (h8 : w.cell? ⟨B, 8, none⟩ = some x8) (f8 : w.frozen? ⟨B, 8, none⟩ = false) :
    Calls Yba.prog 12 #[.pointer (some ⟨B, 0, none⟩), .bool false, .bool ak, .slice a n c] w fun e w' => e = .returned (.tuple #[.int .i64 8, .bool false]) ∧ w' = w.setCell ⟨B, 8, none⟩ (.bool true) := by
  go_enter Yba.func12, Yba.ntmps12
  go_wp2
  go_ret2
  exact ⟨rfl, rfl⟩

set_option maxHeartbeats 400000 in
theorem decide_ending (B : Nat) (cm ak : Bool) (a : Option Addr) (n c : Nat) (w : World) (h3 : w.cell? ⟨B, 3, none⟩ = some (.int .i64 3)) :
    Calls Yba.prog 12 #[.pointer (some ⟨B, 0, none⟩), .bool cm, .bool ak, .slice a n c] w fun e w' => e = .returned (.tuple #[.int .i64 6, .bool false]) ∧ w' = w := by
  cases cm
  all_goals
    go_enter Yba.func12, Yba.ntmps12
    go_wp2
    go_ret2
    exact ⟨rfl, rfl⟩

/-- The world behind '(*Branch).end'. -/
def ended (w : World) (B : Nat) (out : Int) (kept : Value) : World := ((w.setCell ⟨B, 3, none⟩ (.int .i64 3)).setCell ⟨B, 5, none⟩ (.int .i64 out)).setCell ⟨B, 6, none⟩ kept

set_option maxHeartbeats 400000 in
theorem end_any (B : Nat) (out : Int) (x3 x5 x6 : Value) (a : Option Addr) (n c : Nat) (w : World) (h3 : w.cell? ⟨B, 3, none⟩ = some x3) (h5 : w.cell? ⟨B, 5, none⟩ = some x5) (h6 : w.cell? ⟨B, 6, none⟩ = some x6)
    (f3 : w.frozen? ⟨B, 3, none⟩ = false) (f5 : w.frozen? ⟨B, 5, none⟩ = false) (f6 : w.frozen? ⟨B, 6, none⟩ = false) :
    Calls Yba.prog 22 #[.pointer (some ⟨B, 0, none⟩), .int .i64 out, .slice a n c] w fun e w' => e = .returned (.tuple #[]) ∧ w' = ended w B out (.slice a n c) := by
  go_enter Yba.func22, Yba.ntmps22
  go_wp2
  go_end0
  exact ⟨rfl, rfl⟩

set_option maxHeartbeats 400000 in
theorem decide_prepared_pass (B : Nat) (x5 x6 : Value) (a : Option Addr) (n c : Nat) (w : World) (h3 : w.cell? ⟨B, 3, none⟩ = some (.int .i64 2)) (h5 : w.cell? ⟨B, 5, none⟩ = some x5) (h6 : w.cell? ⟨B, 6, none⟩ = some x6)
    (f3 : w.frozen? ⟨B, 3, none⟩ = false) (f5 : w.frozen? ⟨B, 5, none⟩ = false) (f6 : w.frozen? ⟨B, 6, none⟩ = false) :
    Calls Yba.prog 12 #[.pointer (some ⟨B, 0, none⟩), .bool true, .bool false, .slice a n c] w fun e w' => e = .returned (.tuple #[.int .i64 5, .bool true]) ∧ w' = ended w B 1 (.slice a n c) := by
  go_enter Yba.func12, Yba.ntmps12
  go_wp2_with (go_at_call 22; refine (end_any B 1 _ _ _ a n c _ h3 h5 h6 f3 f5 f6).mono ?_; rintro e w' ⟨rfl, rfl⟩)
  go_ret2
  exact ⟨rfl, rfl⟩

set_option maxHeartbeats 400000 in
theorem outcome_any (cm : Bool) (w : World) : Calls Yba.prog 23 #[.bool cm] w fun e w' => e = .returned (.int .i64 (if cm then 1 else 2)) ∧ w' = w := by
  cases cm
  all_goals
    go_enter Yba.func23, Yba.ntmps23
    go_wp2
    go_ret
    exact ⟨rfl, rfl⟩

set_option maxHeartbeats 400000 in
theorem decide_prepared_keep (B : Nat) (cm ak : Bool) (hca : (cm && !ak) = false) (x5 x6 : Value) (fa : Option Addr) (fn fc : Nat) (a : Option Addr) (n c : Nat) (w : World) (h3 : w.cell? ⟨B, 3, none⟩ = some (.int .i64 2)) (h4 : w.cell? ⟨B, 4, none⟩ = some (.slice fa fn fc)) (h5 : w.cell? ⟨B, 5, none⟩ = some x5) (h6 : w.cell? ⟨B, 6, none⟩ = some x6)
    (f3 : w.frozen? ⟨B, 3, none⟩ = false) (f5 : w.frozen? ⟨B, 5, none⟩ = false) (f6 : w.frozen? ⟨B, 6, none⟩ = false) :
    Calls Yba.prog 12 #[.pointer (some ⟨B, 0, none⟩), .bool cm, .bool ak, .slice a n c] w fun e w' => e = .returned (.tuple #[.int .i64 5, .bool false]) ∧ w' = ended w.drew B (if cm then 1 else 2) (.slice fa fn fc) := by
  cases cm
  · go_enter Yba.func12, Yba.ntmps12
    go_wp2
    go_region_with (first | (go_at_call 23; refine (outcome_any false _).mono ?_; rintro e w' ⟨rfl, rfl⟩) | (go_at_call 22; refine (end_any B 2 (.int .i64 2) x5 x6 fa fn fc _ ?_ ?_ ?_ ?_ ?_ ?_).mono ?_; exact h3; exact h5; exact h6; exact f3; exact f5; exact f6; rintro e w' ⟨rfl, rfl⟩))
    all_goals go_wp2
    all_goals go_ret2
    all_goals exact ⟨rfl, rfl⟩
  · cases ak
    · simp at hca
    · go_enter Yba.func12, Yba.ntmps12
      go_wp2
      go_region_with (first | (go_at_call 23; refine (outcome_any true _).mono ?_; rintro e w' ⟨rfl, rfl⟩) | (go_at_call 22; refine (end_any B 1 (.int .i64 2) x5 x6 fa fn fc _ ?_ ?_ ?_ ?_ ?_ ?_).mono ?_; exact h3; exact h5; exact h6; exact f3; exact f5; exact f6; rintro e w' ⟨rfl, rfl⟩))
      all_goals go_wp2
      all_goals go_ret2
      all_goals exact ⟨rfl, rfl⟩
end Go.Proofs.Ybulkfue
