/-
  LawS0341AFree: the row's proof out of the walk.
-/
import Derived.Test.YbulkgaqLawW
import Derived.Deep.Slices
import Derived.ProofKit
import Derived.OpenShut
import Derived.ShutString
import Derived.ChangeOld
namespace Go.Proofs.Ybulkgaq
open Go.RowKit Go.Deep Go.ChangeShapes Go.WideShapes Go.ChangeAt

theorem Yba.cells5 : Yba.prog.cellsOf 5 = 1 := by kernel_rfl
theorem Yba.cells4 : Yba.prog.cellsOf 4 = 1 := by kernel_rfl

theorem nat_of_u8 {q : Int} (h : (Lit.int .u8 q).wf = true) : ∃ n : Nat, q = n ∧ n ≤ 255 := by
  have := bounds_u8 h
  exact ⟨q.toNat, by omega, by omega⟩

set_option maxRecDepth 100000 in
theorem bytes_of {H : Type} {enc : TypeId × Value → H} {W : World} {a : Option Addr} {n c : Nat} {d : DataW H} {p : List MemPlace} (h : DataW.Trod enc Yba.prog W 0 (fun _ => true) true 22 (.slice a n c) d p) :
    n ≤ maxLen ∧ ∃ b off X, BytesIn W a n b off X := by
  obtain ⟨fuel, hf⟩ := h
  rcases open_slice Yba.underlying22 hf with ⟨hcs, _⟩ | ⟨x, len, cap, m, k, D, Pl, hcs, _, hl, hm, hmm, _, hx⟩
  · simp [Value.cells] at hcs
    obtain ⟨_, rfl, _⟩ := hcs
    exact ⟨by omega, 0, 0, fun _ => 0, by simp, by simp, by simp, by simp⟩
  · simp [Value.cells] at hcs
    obtain ⟨rfl, rfl, rfl⟩ := hcs
    refine ⟨by omega, ?_⟩
    by_cases h0 : n = 0
    · subst h0
      exact ⟨0, 0, fun _ => 0, by simp, by simp, by simp, by simp⟩
    simp only [if_true] at hmm
    have each : ∀ i, i < n → ∃ q : Nat, W.cell? (x.add i) = some (.int .u8 q) ∧ q ≤ 255 := by
      intro i hi
      obtain ⟨cs', h1, h2⟩ := hx i (by omega)
      rw [Yba.cells5] at h1
      obtain ⟨_, hlen, hcell⟩ := World.cells?_some h1
      match cs', hlen with
      | [v0], _ =>
        obtain ⟨n0, e0, _, w0⟩ := DataW.trod_int Yba.underlying5 h2
        simp at e0
        subst e0
        have c0 := hcell 0 (by omega)
        rw [add_add] at c0
        obtain ⟨m0, rfl, b0⟩ := nat_of_u8 w0
        exact ⟨m0, by simpa using c0, b0⟩
    obtain ⟨q, hq⟩ := choose_lt each
    obtain ⟨b, off, spot⟩ := x
    have hspot : spot = none := by simpa [Addr.add] using World.cell?_spot (hq 0 (by omega)).1
    subst hspot
    refine ⟨b, off, fun i => if i < n then q i else 0, fun _ => rfl, fun _ => ?_, fun i hi => ?_, fun i => ?_⟩
    · have := (hq 0 (by omega)).1
      rw [add_plain] at this
      exact World.block_lt_of_cell? W _ this
    · have := (hq i hi).1
      rw [add_plain] at this
      simpa only [hi, if_true] using this
    · by_cases hi : i < n
      · simp only [hi, if_true]
        exact (hq i hi).2
      · simp [hi]

set_option maxRecDepth 100000 in
theorem bools_of {H : Type} {enc : TypeId × Value → H} {W : World} {a : Option Addr} {n c : Nat} {d : DataW H} {p : List MemPlace} (h : DataW.Trod enc Yba.prog W 0 (fun _ => true) true 23 (.slice a n c) d p) :
    n ≤ maxLen ∧ ∃ b off X, BoolsIn W a n b off X := by
  obtain ⟨fuel, hf⟩ := h
  rcases open_slice Yba.underlying23 hf with ⟨hcs, _⟩ | ⟨x, len, cap, m, k, D, Pl, hcs, _, hl, hm, hmm, _, hx⟩
  · simp [Value.cells] at hcs
    obtain ⟨_, rfl, _⟩ := hcs
    exact ⟨by omega, 0, 0, fun _ => false, by simp, by simp, by simp⟩
  · simp [Value.cells] at hcs
    obtain ⟨rfl, rfl, rfl⟩ := hcs
    refine ⟨by omega, ?_⟩
    by_cases h0 : n = 0
    · subst h0
      exact ⟨0, 0, fun _ => false, by simp, by simp, by simp⟩
    simp only [if_true] at hmm
    have each : ∀ i, i < n → ∃ q : Bool, W.cell? (x.add i) = some (.bool q) := by
      intro i hi
      obtain ⟨cs', h1, h2⟩ := hx i (by omega)
      rw [Yba.cells4] at h1
      obtain ⟨_, hlen, hcell⟩ := World.cells?_some h1
      match cs', hlen with
      | [v0], _ =>
        obtain ⟨n0, e0, _⟩ := DataW.trod_bool Yba.underlying4 h2
        simp at e0
        subst e0
        have c0 := hcell 0 (by omega)
        rw [add_add] at c0
        exact ⟨n0, by simpa using c0⟩
    obtain ⟨q, hq⟩ := choose_lt each
    obtain ⟨b, off, spot⟩ := x
    have hspot : spot = none := by simpa [Addr.add] using World.cell?_spot (hq 0 (by omega))
    subst hspot
    refine ⟨b, off, fun i => if i < n then q i else false, fun _ => rfl, fun _ => ?_, fun i hi => ?_⟩
    · have := hq 0 (by omega)
      rw [add_plain] at this
      exact World.block_lt_of_cell? W _ this
    · have := hq i hi
      rw [add_plain] at this
      simpa only [hi, if_true] using this

set_option maxRecDepth 100000 in
set_option maxHeartbeats 1000000 in
theorem law_long (a0 : Option Addr) (n0 c0 : Nat) (a1 : Option Addr) (n1 c1 : Nat) (a2 : Option Addr) (n2 c2 : Nat) (nt : Int) (a4 : Option Addr) (n4 c4 : Nat) (kp ka : Int) (w : World) (m0 : n0 ≤ maxLen) (m1 : n1 ≤ maxLen) (m2 : n2 ≤ maxLen) (m4 : n4 ≤ maxLen)
    (h : 1024 < n0 ∨ 1024 < n1 ∨ 1024 < n2 ∨ 1024 < n4) :
    Calls Yba.prog 3 #[.slice a0 n0 c0, .slice a1 n1 c1, .slice a2 n2 c2, .int .u8 nt, .slice a4 n4 c4, .int .u8 kp, .int .u8 ka] w fun e w' => e = .returned (.bool true) ∧ Below w.heap.size w w' := by
  unfold maxLen at m0 m1 m2 m4
  by_cases h0 : 1024 < n0
  · have h0I : (1024 : Int) < (n0 : Int) := by omega
    go_enter Yba.func3, Yba.ntmps3
    go_wp2
    go_ret
    exact ⟨rfl, Below.refl _ _⟩
  · have h0I : ¬ (1024 : Int) < (n0 : Int) := by omega
    by_cases h1 : 1024 < n1
    · have h1I : (1024 : Int) < (n1 : Int) := by omega
      go_enter Yba.func3, Yba.ntmps3
      go_wp2
      go_ret
      exact ⟨rfl, Below.refl _ _⟩
    · have h1I : ¬ (1024 : Int) < (n1 : Int) := by omega
      by_cases h2 : 1024 < n2
      · have h2I : (1024 : Int) < (n2 : Int) := by omega
        go_enter Yba.func3, Yba.ntmps3
        go_wp2
        go_ret
        exact ⟨rfl, Below.refl _ _⟩
      · have h2I : ¬ (1024 : Int) < (n2 : Int) := by omega
        have h4I : (1024 : Int) < (n4 : Int) := by omega
        go_enter Yba.func3, Yba.ntmps3
        go_wp2
        go_ret
        exact ⟨rfl, Below.refl _ _⟩
end Go.Proofs.Ybulkgaq

namespace Go.Proofs.Ybulkgaq.lawS0341AFree
open Go.RowKit Go.Deep Go.ChangeShapes Go.WideShapes Go.ChangeAt

theorem own : ownKnob Yba.prog.godebug = none := by kernel_rfl

theorem walk (a0 : Option Addr) (n0 c0 : Nat) (a1 : Option Addr) (n1 c1 : Nat) (a2 : Option Addr) (n2 c2 : Nat) (nt : Nat) (a4 : Option Addr) (n4 c4 : Nat) (kp ka : Nat) (w : World) (m0 : n0 ≤ maxLen) (m1 : n1 ≤ maxLen) (m2 : n2 ≤ maxLen) (m4 : n4 ≤ maxLen)
    (hnt : nt ≤ 255) (hkp : kp ≤ 255) (hka : ka ≤ 255) (h0 : ∃ b off X, BytesIn w a0 n0 b off X) (h1 : ∃ b off X, BytesIn w a1 n1 b off X) (h2 : ∃ b off X, BytesIn w a2 n2 b off X) (h4 : ∃ b off X, BoolsIn w a4 n4 b off X) :
    Calls Yba.prog 3 #[.slice a0 n0 c0, .slice a1 n1 c1, .slice a2 n2 c2, .int .u8 nt, .slice a4 n4 c4, .int .u8 kp, .int .u8 ka] w fun e w' => e = .returned (.bool true) ∧ Below w.heap.size w w' := by
  by_cases hl : 1024 < n0 ∨ 1024 < n1 ∨ 1024 < n2 ∨ 1024 < n4
  · exact law_long a0 n0 c0 a1 n1 c1 a2 n2 c2 _ a4 n4 c4 _ _ w m0 m1 m2 m4 hl
  · obtain ⟨b0, o0, X0, h0⟩ := h0
    obtain ⟨b1, o1, X1, h1⟩ := h1
    obtain ⟨b2, o2, X2, h2⟩ := h2
    obtain ⟨b4, o4, F, h4⟩ := h4
    exact law_short a0 n0 c0 b0 o0 X0 a1 n1 c1 b1 o1 X1 a2 n2 c2 b2 o2 X2 nt a4 n4 c4 b4 o4 F kp ka w (by omega) (by omega) (by omega) (by omega) hnt hkp hka h0 h1 h2 h4

set_option maxRecDepth 100000 in
theorem lifted (os : Os) (started : os.Started) (H : Type) (enc : TypeId × Value → H) :
    ReturnsInHanded {} Yba.checked os 3 .any (Rows.lawS0341AFreeSpec.pre6 enc Yba.prog Yba.f3 Rows.lawS0341AFreeRow.domain false) (Rows.lawS0341AFreeSpec.post enc Yba.prog Yba.f3 false true false false) := by
  refine returnsInHanded_of_change (C := Yba.checked) own started (by kernel_rfl) Yba.func3
    (ChangeSpec.witness6 (enc := enc) (C := Yba.checked) false ⟨#[], #[.slice none 0 0, .slice none 0 0, .slice none 0 0, .int .u8 0, .slice none 0 0, .int .u8 0, .int .u8 0], []⟩ 8 (by kernel_rfl) (by kernel_rfl) (by kernel_rfl) (by kernel_rfl)) ?_
  intro W base args ds gs before hval0 hW hcnd _
  have hval : ∀ (j : Nat) t v, Yba.f3.params[j]? = some t → args[j]? = some v → Value.okWide Yba.prog W .any base t v := hval0
  have hW' := hW
  obtain ⟨p, q, hA0, hV, rfl, hfz, hnd⟩ := hW
  have hA : DataW.TrodAll enc Yba.prog W 0 (fun _ => true) true Yba.f3.params.toList args.toList ds p := hA0
  rw [Yba.params3] at hA hval
  obtain ⟨v0, vs0, d0, ds0, p0, q0, hargs, rfl, rfl, h0, r0⟩ := trodAll_cons hA
  obtain ⟨v1, vs1, d1, ds1, p1, q1, rfl, rfl, rfl, h1, r1⟩ := trodAll_cons r0
  obtain ⟨v2, vs2, d2, ds2, p2, q2, rfl, rfl, rfl, h2, r2⟩ := trodAll_cons r1
  obtain ⟨v3, vs3, d3, ds3, p3, q3, rfl, rfl, rfl, h3, r3⟩ := trodAll_cons r2
  obtain ⟨v4, vs4, d4, ds4, p4, q4, rfl, rfl, rfl, h4, r4⟩ := trodAll_cons r3
  obtain ⟨v5, vs5, d5, ds5, p5, q5, rfl, rfl, rfl, h5, r5⟩ := trodAll_cons r4
  obtain ⟨v6, vs6, d6, ds6, p6, q6, rfl, rfl, rfl, h6, r6⟩ := trodAll_cons r5
  obtain ⟨rfl, rfl, rfl⟩ := trodAll_nil r6
  obtain rfl : args = #[v0, v1, v2, v3, v4, v5, v6] := by cases args; simp_all
  obtain ⟨rfl, rfl⟩ := trodVars_none hV
  obtain ⟨a0, len0, cap0, rfl⟩ := okWide_slice Yba.underlying22 (hval 0 22 v0 rfl rfl)
  have lt0 : ∀ x ∈ p0, x.block < W.heap.size := by obtain ⟨m, hm⟩ := h0; exact DataW.trod_lt m _ _ _ hm
  obtain ⟨m0, s0⟩ := bytes_of h0
  obtain ⟨a1, len1, cap1, rfl⟩ := okWide_slice Yba.underlying22 (hval 1 22 v1 rfl rfl)
  have lt1 : ∀ x ∈ p1, x.block < W.heap.size := by obtain ⟨m, hm⟩ := h1; exact DataW.trod_lt m _ _ _ hm
  obtain ⟨m1, s1⟩ := bytes_of h1
  obtain ⟨a2, len2, cap2, rfl⟩ := okWide_slice Yba.underlying22 (hval 2 22 v2 rfl rfl)
  have lt2 : ∀ x ∈ p2, x.block < W.heap.size := by obtain ⟨m, hm⟩ := h2; exact DataW.trod_lt m _ _ _ hm
  obtain ⟨m2, s2⟩ := bytes_of h2
  obtain ⟨a3, rfl, rfl, rfl, w3⟩ := open_int Yba.underlying5 (hval 3 5 v3 rfl rfl) h3
  obtain ⟨a4, len4, cap4, rfl⟩ := okWide_slice Yba.underlying23 (hval 4 23 v4 rfl rfl)
  have lt4 : ∀ x ∈ p4, x.block < W.heap.size := by obtain ⟨m, hm⟩ := h4; exact DataW.trod_lt m _ _ _ hm
  obtain ⟨m4, s4⟩ := bools_of h4
  obtain ⟨a5, rfl, rfl, rfl, w5⟩ := open_int Yba.underlying5 (hval 5 5 v5 rfl rfl) h5
  obtain ⟨a6, rfl, rfl, rfl, w6⟩ := open_int Yba.underlying5 (hval 6 5 v6 rfl rfl) h6
  clear hA0 hval0
  obtain ⟨x3, rfl, b3⟩ := nat_of_u8 w3
  obtain ⟨x5, rfl, b5⟩ := nat_of_u8 w5
  obtain ⟨x6, rfl, b6⟩ := nat_of_u8 w6
  refine (walk a0 len0 cap0 a1 len1 cap1 a2 len2 cap2 x3 a4 len4 cap4 x5 x6 W m0 m1 m2 m4 b3 b5 b6 s0 s1 s2 s4).mono fun e W' ⟨he, bel⟩ => ?_
  subst he
  exact ⟨_, rfl, _, _, _, [], _, [], hW', trodAll_mk1 (shut_bool Yba.underlying4 _), (trodAll_cons_mk (Below.trod Yba.laidOut (by kernel_rfl) (of_decide_eq_true (by kernel_rfl)) h0 bel lt0) (trodAll_cons_mk (Below.trod Yba.laidOut (by kernel_rfl) (of_decide_eq_true (by kernel_rfl)) h1 bel lt1) (trodAll_cons_mk (Below.trod Yba.laidOut (by kernel_rfl) (of_decide_eq_true (by kernel_rfl)) h2 bel lt2) (trodAll_cons_mk (shut_int Yba.underlying5 w3) (trodAll_cons_mk (Below.trod Yba.laidOut (by kernel_rfl) (of_decide_eq_true (by kernel_rfl)) h4 bel lt4) (trodAll_cons_mk (shut_int Yba.underlying5 w5) (trodAll_cons_mk (shut_int Yba.underlying5 w6) trodAll_mk0))))))), rfl, bel.frame _, fun h => by cases h⟩

theorem over : Rows.lawS0341AFreeRow.holds Yba.pinned (OpenSpec.ofChange Rows.lawS0341AFreeSpec) :=
  OpenClaim.holds_of_wide 3 Yba.f3 rfl rfl rfl rfl rfl rfl rfl ⟨rfl, rfl, rfl, rfl, rfl⟩ rfl rfl rfl rfl rfl (by kernel_rfl) Yba.func3 (by kernel_rfl)
    (of_decide_eq_true (by kernel_rfl)) (by unfold Func.isWrapper; first | (rw [if_pos (by decide +kernel)]; kernel_rfl) | (rw [if_neg (by decide +kernel)]; exact ⟨rfl, rfl⟩))
    (fun os started H enc _ => lifted os started H enc)

/-- THE STATEMENT. -/
theorem proved : Rows.LawS0341AFreeSaid := over
end Go.Proofs.Ybulkgaq.lawS0341AFree
