/-
  LawS0329BKeepsApplied: the row's proof out of the walk.
-/
import Derived.Test.YbulkfueBKeepW
import Derived.ShutString
import Derived.ChangeOld
namespace Go.Proofs.Ybulkfue.lawS0329BKeepsApplied
open Go.ChangeShapes Go.WideShapes Go.ChangeAt Go.RowKit

theorem own : ownKnob Yba.prog.godebug = none := by kernel_rfl

set_option maxRecDepth 100000 in
set_option maxHeartbeats 400000 in
theorem long (a : Option Addr) (n c : Nat) (w : World) (hn : 1024 < n) (hm : n ≤ maxLen) :
    Calls Yba.prog 4 #[.slice a n c] w fun e w' => e = .returned (.bool true) ∧ Below w.heap.size w w' := by
  unfold maxLen at hm
  go_enter Yba.func4, Yba.ntmps4
  go_wp2
  go_ret
  exact ⟨rfl, Below.refl _ _⟩

set_option maxRecDepth 100000 in
set_option maxHeartbeats 400000 in
theorem none_walk (a : Option Addr) (c : Nat) (w : World) : Calls Yba.prog 4 #[.slice a 0 c] w fun e w' => e = .returned (.bool true) ∧ Below w.heap.size w w' := by
  have hm1 := make25 0 (by omega)
  have hm2 := make48 0 (by omega)
  have hI := KInv_start w 0 (fun _ => ByteArray.empty) (fun _ => 0) (fun _ => 0) (fun _ => 0) #[.string ByteArray.empty, .int .u64 0] #[.int .u64 0] (fun _ => by decide) (fun _ => by decide)
  obtain ⟨W, hW⟩ : ∃ W, W = ((((w.alloc (.map #[] 0)).alloc (.cells #[.int .i32 0, .int .u32 0, .map (some w.heap.size)] 44)).alloc (.cells (madeCells #[.string ByteArray.empty, .int .u64 0] (0 * 2)) 29)).alloc (.cells (madeCells #[.int .u64 0] 0) 27)) := ⟨_, rfl⟩
  rw [← hW] at hI
  have cI : W.cell? ⟨w.heap.size + 1, 2, none⟩ = some (.map (some w.heap.size)) := cell_of_row _ _ _ _ _ _ hI.inbox
  have hlen := hI.map.len Yba.underlying42 3
  have hbel := hI.below
  clear hI
  rw [hW] at cI hlen hbel
  clear hW W
  simp only [Nat.zero_mul, Nat.mul_one, Int.ofNat_zero] at hm1 hm2 cI hlen hbel
  go_enter Yba.func4, Yba.ntmps4
  go_wp2_with (go_at_call 7; refine (newInbox_any w).mono ?_; rintro e w' ⟨rfl, rfl⟩)
  refine wp_loop_rounds 1 ?_
  rw [rounds_succ]
  go_wp2
  go_ret
  exact ⟨rfl, hbel⟩

theorem walk (a : Option Addr) (n c : Nat) (w : World) (hm : n ≤ maxLen) (h : n = 0 ∨ ∃ b off op st ep sq, a = some ⟨b, off, none⟩ ∧ Steps w b off n op st ep sq) :
    Calls Yba.prog 4 #[.slice a n c] w fun e w' => e = .returned (.bool true) ∧ Below w.heap.size w w' := by
  by_cases hl : 1024 < n
  · exact long a n c w hl hm
  rcases h with rfl | ⟨b, off, op, st, ep, sq, rfl, hs⟩
  · exact none_walk a c w
  · exact keep_walk b off n c op st ep sq w (by omega) hs

set_option maxRecDepth 100000 in
theorem lifted (os : Os) (started : os.Started) (H : Type) (enc : TypeId × Value → H) :
    ReturnsInHanded {} Yba.checked os 4 .any (Rows.lawS0329BKeepsAppliedSpec.pre6 enc Yba.prog Yba.f4 Rows.lawS0329BKeepsAppliedRow.domain false) (Rows.lawS0329BKeepsAppliedSpec.post enc Yba.prog Yba.f4 false true false false) := by
  refine returnsInHanded_of_change (C := Yba.checked) own started (by kernel_rfl) Yba.func4
    (ChangeSpec.witness6 (enc := enc) (C := Yba.checked) false ⟨#[], #[.slice none 0 0], []⟩ 8 (by kernel_rfl) (by kernel_rfl) (by kernel_rfl) (by kernel_rfl)) ?_
  intro W base args ds gs before hval0 hW hcnd _
  have hval : ∀ (j : Nat) t v, Yba.f4.params[j]? = some t → args[j]? = some v → Value.okWide Yba.prog W .any base t v := hval0
  have hW' := hW
  obtain ⟨p, q, hA0, hV, rfl, hfz, hnd⟩ := hW
  have hA : DataW.TrodAll enc Yba.prog W 0 (fun _ => true) true Yba.f4.params.toList args.toList ds p := hA0
  rw [Yba.params4] at hA hval
  obtain ⟨v0, vs0, d0, ds0, p0, q0, hargs, rfl, rfl, h0, r0⟩ := trodAll_cons hA
  obtain ⟨rfl, rfl, rfl⟩ := trodAll_nil r0
  obtain rfl : args = #[v0] := by cases args; simp_all
  obtain ⟨rfl, rfl⟩ := trodVars_none hV
  obtain ⟨a0, len0, cap0, rfl⟩ := okWide_slice Yba.underlying22 (hval 0 22 v0 rfl rfl)
  have lt0 : ∀ x ∈ p0, x.block < W.heap.size := by obtain ⟨m, hm⟩ := h0; exact DataW.trod_lt m _ _ _ hm
  obtain ⟨m0, s0⟩ := steps_of h0
  clear hA0 hval0
  refine (walk a0 len0 cap0 W m0 s0).mono fun e W' ⟨he, bel⟩ => ?_
  subst he
  exact ⟨_, rfl, _, _, _, [], _, [], hW', trodAll_mk1 (shut_bool Yba.underlying4 _), (trodAll_cons_mk (Below.trod Yba.laidOut (by kernel_rfl) (of_decide_eq_true (by kernel_rfl)) h0 bel lt0) trodAll_mk0), rfl, bel.frame _, fun h => by cases h⟩

theorem over : Rows.lawS0329BKeepsAppliedRow.holds Yba.pinned (OpenSpec.ofChange Rows.lawS0329BKeepsAppliedSpec) :=
  OpenClaim.holds_of_wide 4 Yba.f4 rfl rfl rfl rfl rfl rfl rfl ⟨rfl, rfl, rfl, rfl, rfl⟩ rfl rfl rfl rfl rfl (by kernel_rfl) Yba.func4 (by kernel_rfl)
    (of_decide_eq_true (by kernel_rfl)) (by unfold Func.isWrapper; first | (rw [if_pos (by decide +kernel)]; kernel_rfl) | (rw [if_neg (by decide +kernel)]; exact ⟨rfl, rfl⟩))
    (fun os started H enc _ => lifted os started H enc)

/-- THE STATEMENT. -/
theorem proved : Rows.LawS0329BKeepsAppliedSaid := over
end Go.Proofs.Ybulkfue.lawS0329BKeepsApplied
