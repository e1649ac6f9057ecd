/-
  LawS0329CSecondWaits: the row's proof out of the walk (YbulkfueCSecondW).
-/
import Derived.Test.YbulkfueCSecondW
import Derived.ProofKit
import Derived.OpenShut
import Derived.ShutString
import Derived.ChangeOld
import Derived.Below
import Derived.SliceStrings
namespace Go.Proofs.Ybulkfue.lawS0329CSecondWaits
open Go.ChangeShapes Go.WideShapes Go.ChangeAt Go.RowKit
open Go.ChangeMaps (open_string shut_string)

theorem own : ownKnob Yba.prog.godebug = none := by kernel_rfl
theorem laidOut : laidOutB Yba.prog = true := by kernel_rfl

set_option maxRecDepth 100000 in
set_option maxHeartbeats 400000 in
theorem long_one (cm ak cm2 ak2 : Bool) (pa qa fa : Option Addr) (pn pc qn qc fn fc : Nat) (w : World) (hp : 1024 < pn) (hpm : pn ≤ maxLen) :
    Calls Yba.prog 6 #[.bool cm, .bool ak, .bool cm2, .bool ak2, .slice pa pn pc, .slice qa qn qc, .slice fa fn fc] w fun e w' => e = .returned (.bool true) ∧ Below w.heap.size w w' := by
  unfold maxLen at hpm
  go_enter Yba.func6, Yba.ntmps6
  go_wp2
  go_ret
  exact ⟨rfl, Below.refl _ _⟩

set_option maxRecDepth 100000 in
set_option maxHeartbeats 400000 in
theorem long_two (cm ak cm2 ak2 : Bool) (pa qa fa : Option Addr) (pn pc qn qc fn fc : Nat) (w : World) (hp : pn ≤ 1024) (hq : 1024 < qn) (hqm : qn ≤ maxLen) :
    Calls Yba.prog 6 #[.bool cm, .bool ak, .bool cm2, .bool ak2, .slice pa pn pc, .slice qa qn qc, .slice fa fn fc] w fun e w' => e = .returned (.bool true) ∧ Below w.heap.size w w' := by
  unfold maxLen at hqm
  go_enter Yba.func6, Yba.ntmps6
  go_wp2
  go_ret
  exact ⟨rfl, Below.refl _ _⟩

set_option maxRecDepth 100000 in
set_option maxHeartbeats 400000 in
theorem long_three (cm ak cm2 ak2 : Bool) (pa qa fa : Option Addr) (pn pc qn qc fn fc : Nat) (w : World) (hp : pn ≤ 1024) (hq : qn ≤ 1024) (hf : 1024 < fn) (hfm : fn ≤ maxLen) :
    Calls Yba.prog 6 #[.bool cm, .bool ak, .bool cm2, .bool ak2, .slice pa pn pc, .slice qa qn qc, .slice fa fn fc] w fun e w' => e = .returned (.bool true) ∧ Below w.heap.size w w' := by
  unfold maxLen at hfm
  go_enter Yba.func6, Yba.ntmps6
  go_wp2
  go_ret
  exact ⟨rfl, Below.refl _ _⟩

theorem walk (cm ak cm2 ak2 : Bool) (pa qa fa : Option Addr) (pn pc qn qc fn fc : Nat) (ps fs : Nat → ByteArray) (w : World)
    (hpm : pn ≤ maxLen) (hqm : qn ≤ maxLen) (hfm : fn ≤ maxLen) (hps : StrRow w pa pn ps) (hn : fa = none → fn = 0 ∧ fc = 0) (hs : StrRow w fa fn fs) :
    Calls Yba.prog 6 #[.bool cm, .bool ak, .bool cm2, .bool ak2, .slice pa pn pc, .slice qa qn qc, .slice fa fn fc] w fun e w' => e = .returned (.bool true) ∧ Below w.heap.size w w' := by
  by_cases hp : 1024 < pn
  · exact long_one cm ak cm2 ak2 pa qa fa pn pc qn qc fn fc w hp hpm
  by_cases hq : 1024 < qn
  · exact long_two cm ak cm2 ak2 pa qa fa pn pc qn qc fn fc w (by omega) hq hqm
  by_cases hf : 1024 < fn
  · exact long_three cm ak cm2 ak2 pa qa fa pn pc qn qc fn fc w (by omega) (by omega) hf hfm
  have hp' : pn ≤ 1024 := by omega
  have hq' : qn ≤ 1024 := by omega
  have hf' : fn ≤ 1024 := by omega
  cases cm
  · exact second_f ak cm2 ak2 pa qa fa pn pc qn qc fn fc fs w hp' hq' hf' hn hs
  · cases ak
    · exact second_pass cm2 ak2 pa qa fa pn pc qn qc fn fc fs ps w hp' hq' hf' hn hs hps
    · exact second_t cm2 ak2 pa qa fa pn pc qn qc fn fc fs w hp' hq' hf' hn hs

/-- WHAT A SLICE OF STRINGS THAT CAME IN GIVES THE WALK. -/
theorem row_of {H : Type} {enc : TypeId × Value → H} {W : World} {a : Option Addr} {n c : Nat} {d : DataW H} {p : List MemPlace} (h : DataW.Trod enc Yba.prog W 0 (fun _ => true) true 50 (.slice a n c) d p) :
    ∃ ss : Nat → ByteArray, StrRow W a n ss ∧ (a = none → n = 0 ∧ c = 0) ∧ n ≤ maxLen := by
  obtain ⟨fuel, hf⟩ := h
  rcases open_strings Yba.underlying50 Yba.underlying9 Yba.cells9 hf with ⟨hcs, _⟩ | ⟨x, l, c', ss, hcs, _, hl, hm, hz, _, hcell, _⟩
  · simp [Value.cells] at hcs
    obtain ⟨rfl, rfl, rfl⟩ := hcs
    exact ⟨fun _ => ByteArray.empty, ⟨fun _ => rfl, (fun _ h => by cases h)⟩, fun _ => ⟨rfl, rfl⟩, Nat.zero_le _⟩
  · simp [Value.cells] at hcs
    obtain ⟨rfl, rfl, rfl⟩ := hcs
    simp only [if_true] at hz
    refine ⟨fun i => ss.getD i ByteArray.empty, ⟨(fun h => by cases h), ?_⟩, (fun h => by cases h), by omega⟩
    intro y hy i hi
    cases hy
    exact hcell i (by omega)

set_option maxRecDepth 100000 in
theorem lifted (os : Os) (started : os.Started) (H : Type) (enc : TypeId × Value → H) :
    ReturnsInHanded {} Yba.checked os 6 .any (Rows.lawS0329CSecondWaitsSpec.pre6 enc Yba.prog Yba.f6 Rows.lawS0329CSecondWaitsRow.domain false) (Rows.lawS0329CSecondWaitsSpec.post enc Yba.prog Yba.f6 false true false false) := by
  refine returnsInHanded_of_change (C := Yba.checked) own started (by kernel_rfl) Yba.func6
    (ChangeSpec.witness6 (enc := enc) (C := Yba.checked) false ⟨#[], #[.bool false, .bool false, .bool false, .bool false, .slice none 0 0, .slice none 0 0, .slice none 0 0], []⟩ 8 (by kernel_rfl) (by kernel_rfl) (by kernel_rfl) (by kernel_rfl)) ?_
  intro W base args ds gs before hval0 hW hcnd _
  have hval : ∀ (j : Nat) t v, Yba.f6.params[j]? = some t → args[j]? = some v → Value.okWide Yba.prog W .any base t v := hval0
  have hW' := hW
  obtain ⟨p, q, hA0, hV, rfl, hfz, hnd⟩ := hW
  have hA : DataW.TrodAll enc Yba.prog W 0 (fun _ => true) true Yba.f6.params.toList args.toList ds p := hA0
  rw [Yba.params6] at hA hval
  obtain ⟨v0, vs0, d0, ds0, p0, q0, hargs, rfl, rfl, h0, r0⟩ := trodAll_cons hA
  obtain ⟨v1, vs1, d1, ds1, p1, q1, rfl, rfl, rfl, h1, r1⟩ := trodAll_cons r0
  obtain ⟨v2, vs2, d2, ds2, p2, q2, rfl, rfl, rfl, h2, r2⟩ := trodAll_cons r1
  obtain ⟨v3, vs3, d3, ds3, p3, q3, rfl, rfl, rfl, h3, r3⟩ := trodAll_cons r2
  obtain ⟨v4, vs4, d4, ds4, p4, q4, rfl, rfl, rfl, h4, r4⟩ := trodAll_cons r3
  obtain ⟨v5, vs5, d5, ds5, p5, q5, rfl, rfl, rfl, h5, r5⟩ := trodAll_cons r4
  obtain ⟨v6, vs6, d6, ds6, p6, q6, rfl, rfl, rfl, h6, r6⟩ := trodAll_cons r5
  obtain ⟨rfl, rfl, rfl⟩ := trodAll_nil r6
  obtain rfl : args = #[v0, v1, v2, v3, v4, v5, v6] := by cases args; simp_all
  obtain ⟨rfl, rfl⟩ := trodVars_none hV
  obtain ⟨a0, rfl, rfl, rfl⟩ := open_bool Yba.underlying4 (hval 0 4 v0 rfl rfl) h0
  obtain ⟨a1, rfl, rfl, rfl⟩ := open_bool Yba.underlying4 (hval 1 4 v1 rfl rfl) h1
  obtain ⟨a2, rfl, rfl, rfl⟩ := open_bool Yba.underlying4 (hval 2 4 v2 rfl rfl) h2
  obtain ⟨a3, rfl, rfl, rfl⟩ := open_bool Yba.underlying4 (hval 3 4 v3 rfl rfl) h3
  obtain ⟨a4, len4, cap4, rfl⟩ := okWide_slice Yba.underlying50 (hval 4 50 v4 rfl rfl)
  have lt4 : ∀ x ∈ p4, x.block < W.heap.size := by obtain ⟨m, hm⟩ := h4; exact DataW.trod_lt m _ _ _ hm
  obtain ⟨s4, w4, _, m4⟩ := row_of h4
  obtain ⟨a5, len5, cap5, rfl⟩ := okWide_slice Yba.underlying50 (hval 5 50 v5 rfl rfl)
  have lt5 : ∀ x ∈ p5, x.block < W.heap.size := by obtain ⟨m, hm⟩ := h5; exact DataW.trod_lt m _ _ _ hm
  obtain ⟨s5, w5, _, m5⟩ := row_of h5
  obtain ⟨a6, len6, cap6, rfl⟩ := okWide_slice Yba.underlying50 (hval 6 50 v6 rfl rfl)
  have lt6 : ∀ x ∈ p6, x.block < W.heap.size := by obtain ⟨m, hm⟩ := h6; exact DataW.trod_lt m _ _ _ hm
  obtain ⟨s6, w6, n6, m6⟩ := row_of h6
  clear hA0 hval0
  refine (walk a0 a1 a2 a3 a4 a5 a6 len4 cap4 len5 cap5 len6 cap6 s4 s6 W m4 m5 m6 w4 n6 w6).mono fun e W' ⟨he, bel⟩ => ?_
  subst he
  exact ⟨_, rfl, _, _, _, [], _, [], hW', trodAll_mk1 (shut_bool Yba.underlying4 _), (trodAll_cons_mk (shut_bool Yba.underlying4 _) (trodAll_cons_mk (shut_bool Yba.underlying4 _) (trodAll_cons_mk (shut_bool Yba.underlying4 _) (trodAll_cons_mk (shut_bool Yba.underlying4 _) (trodAll_cons_mk (Below.trod laidOut (by kernel_rfl) (of_decide_eq_true (by kernel_rfl)) h4 bel lt4) (trodAll_cons_mk (Below.trod laidOut (by kernel_rfl) (of_decide_eq_true (by kernel_rfl)) h5 bel lt5) (trodAll_cons_mk (Below.trod laidOut (by kernel_rfl) (of_decide_eq_true (by kernel_rfl)) h6 bel lt6) trodAll_mk0))))))), rfl, bel.frame _, fun h => by cases h⟩

theorem over : Rows.lawS0329CSecondWaitsRow.holds Yba.pinned (OpenSpec.ofChange Rows.lawS0329CSecondWaitsSpec) :=
  OpenClaim.holds_of_wide 6 Yba.f6 rfl rfl rfl rfl rfl rfl rfl ⟨rfl, rfl, rfl, rfl, rfl⟩ rfl rfl rfl rfl rfl (by kernel_rfl) Yba.func6 (by kernel_rfl)
    (of_decide_eq_true (by kernel_rfl)) (by unfold Func.isWrapper; first | (rw [if_pos (by decide +kernel)]; kernel_rfl) | (rw [if_neg (by decide +kernel)]; exact ⟨rfl, rfl⟩))
    (fun os started H enc _ => lifted os started H enc)

/-- THE STATEMENT. -/
theorem proved : Rows.LawS0329CSecondWaitsSaid := over
end Go.Proofs.Ybulkfue.lawS0329CSecondWaits
