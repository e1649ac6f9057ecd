/-
  LawS0337CRestrict: the row's proof out of the walk.
-/
import Derived.Test.YbulkfymLawW
import Derived.Deep.Slices
import Derived.ProofKit
import Derived.OpenShut
import Derived.ShutString
import Derived.ChangeOld
import Derived.Laws.IdiomArrays
namespace Go.Proofs.Ybulkfym
open Go.RowKit Go.Deep Go.ChangeShapes Go.WideShapes Go.ChangeAt

theorem Yba.cells35 : Yba.prog.cellsOf 35 = 2 := by kernel_rfl
theorem Yba.cells40 : Yba.prog.cellsOf 40 = 3 := by kernel_rfl
theorem Yba.cells5 : Yba.prog.cellsOf 5 = 1 := by kernel_rfl

theorem nat_of_u8 {q : Int} (h : (Lit.int .u8 q).wf = true) : ∃ n : Nat, q = n ∧ n ≤ 255 := by
  have := bounds_u8 h
  exact ⟨q.toNat, by omega, by omega⟩

set_option maxRecDepth 100000 in
theorem dots_of {H : Type} {enc : TypeId × Value → H} {W : World} {a : Option Addr} {n c : Nat} {d : DataW H} {p : List MemPlace} (h : DataW.Trod enc Yba.prog W 0 (fun _ => true) true 22 (.slice a n c) d p) :
    n ≤ maxLen ∧ ∃ b off R C, DotsIn W a n b off R C := by
  obtain ⟨fuel, hf⟩ := h
  rcases open_slice Yba.underlying22 hf with ⟨hcs, _⟩ | ⟨x, len, cap, m, k, D, Pl, hcs, _, hl, hm, hmm, _, hx⟩
  · simp [Value.cells] at hcs
    obtain ⟨_, rfl, _⟩ := hcs
    exact ⟨by omega, 0, 0, fun _ => 0, fun _ => 0, by simp, by simp, by simp, by simp, by simp, by simp⟩
  · simp [Value.cells] at hcs
    obtain ⟨rfl, rfl, rfl⟩ := hcs
    refine ⟨by omega, ?_⟩
    by_cases h0 : n = 0
    · subst h0
      exact ⟨0, 0, fun _ => 0, fun _ => 0, by simp, by simp, by simp, by simp, by simp, by simp⟩
    simp only [if_true] at hmm
    have each : ∀ i, i < n → ∃ q : Nat × Nat, (W.cell? (x.add (i * 2)) = some (.int .u8 q.1) ∧ W.cell? (x.add (i * 2 + 1)) = some (.int .u8 q.2)) ∧ q.1 ≤ 255 ∧ q.2 ≤ 255 := by
      intro i hi
      obtain ⟨cs', h1, h2⟩ := hx i (by omega)
      rw [Yba.cells35] at h1
      obtain ⟨_, hlen, hcell⟩ := World.cells?_some h1
      obtain ⟨xs, k', _, _, _, hxl, hfl⟩ := DataW.trod_struct Yba.underlying35 h2
      match xs, hxl, cs', hlen with
      | [y0, y1], _, [v0, v1], _ =>
        have g0 := hfl 0 _ rfl
        have g1 := hfl 1 _ rfl
        simp [Yba.cells5] at g0 g1
        obtain ⟨n0, e0, _, w0⟩ := DataW.trod_int Yba.underlying5 g0
        obtain ⟨n1, e1, _, w1⟩ := DataW.trod_int Yba.underlying5 g1
        simp at e0 e1
        subst e0 e1
        have c0 := hcell 0 (by omega)
        have c1 := hcell 1 (by omega)
        rw [add_add] at c0 c1
        obtain ⟨m0, rfl, b0⟩ := nat_of_u8 w0
        obtain ⟨m1, rfl, b1⟩ := nat_of_u8 w1
        exact ⟨(m0, m1), ⟨by simpa using c0, by simpa using c1⟩, b0, b1⟩
    obtain ⟨q, hq⟩ := choose_lt each
    obtain ⟨b, off, spot⟩ := x
    have hspot : spot = none := by simpa [Addr.add] using World.cell?_spot (hq 0 (by omega)).1.1
    subst hspot
    refine ⟨b, off, fun i => if i < n then (q i).1 else 0, fun i => if i < n then (q i).2 else 0, fun _ => rfl, fun _ => ?_, fun i hi => ?_, fun i hi => ?_, fun i => ?_, fun i => ?_⟩
    · have := (hq 0 (by omega)).1.1
      rw [add_plain] at this
      exact World.block_lt_of_cell? W _ this
    · have := (hq i hi).1.1
      rw [add_plain] at this
      simpa only [hi, if_true] using this
    · have := (hq i hi).1.2
      rw [add_plain, ← Nat.add_assoc] at this
      simpa only [hi, if_true] using this
    · by_cases hi : i < n
      · simp only [hi, if_true]
        exact (hq i hi).2.1
      · simp [hi]
    · by_cases hi : i < n
      · simp only [hi, if_true]
        exact (hq i hi).2.2
      · simp [hi]

set_option maxRecDepth 100000 in
theorem keys_of {H : Type} {enc : TypeId × Value → H} {W : World} {a : Option Addr} {n c : Nat} {d : DataW H} {p : List MemPlace} (h : DataW.Trod enc Yba.prog W 0 (fun _ => true) true 23 (.slice a n c) d p) :
    n ≤ maxLen ∧ ∃ b off R C N, KeysIn W a n b off R C N := by
  obtain ⟨fuel, hf⟩ := h
  rcases open_slice Yba.underlying23 hf with ⟨hcs, _⟩ | ⟨x, len, cap, m, k, D, Pl, hcs, _, hl, hm, hmm, _, hx⟩
  · simp [Value.cells] at hcs
    obtain ⟨_, rfl, _⟩ := hcs
    exact ⟨by omega, 0, 0, fun _ => 0, fun _ => 0, fun _ => 0, by simp, by simp, by simp, by simp, by simp, by simp, by simp, by simp⟩
  · simp [Value.cells] at hcs
    obtain ⟨rfl, rfl, rfl⟩ := hcs
    refine ⟨by omega, ?_⟩
    by_cases h0 : n = 0
    · subst h0
      exact ⟨0, 0, fun _ => 0, fun _ => 0, fun _ => 0, by simp, by simp, by simp, by simp, by simp, by simp, by simp, by simp⟩
    simp only [if_true] at hmm
    have each : ∀ i, i < n → ∃ q : Nat × Nat × Nat, (W.cell? (x.add (i * 3)) = some (.int .u8 q.1) ∧ W.cell? (x.add (i * 3 + 1)) = some (.int .u8 q.2.1) ∧ W.cell? (x.add (i * 3 + 2)) = some (.int .u8 q.2.2)) ∧ q.1 ≤ 255 ∧ q.2.1 ≤ 255 ∧ q.2.2 ≤ 255 := by
      intro i hi
      obtain ⟨cs', h1, h2⟩ := hx i (by omega)
      rw [Yba.cells40] at h1
      obtain ⟨_, hlen, hcell⟩ := World.cells?_some h1
      obtain ⟨xs, k', _, _, _, hxl, hfl⟩ := DataW.trod_struct Yba.underlying40 h2
      match xs, hxl, cs', hlen with
      | [y0, y1, y2], _, [v0, v1, v2], _ =>
        have g0 := hfl 0 _ rfl
        have g1 := hfl 1 _ rfl
        have g2 := hfl 2 _ rfl
        simp [Yba.cells5] at g0 g1 g2
        obtain ⟨n0, e0, _, w0⟩ := DataW.trod_int Yba.underlying5 g0
        obtain ⟨n1, e1, _, w1⟩ := DataW.trod_int Yba.underlying5 g1
        obtain ⟨n2, e2, _, w2⟩ := DataW.trod_int Yba.underlying5 g2
        simp at e0 e1 e2
        subst e0 e1 e2
        have c0 := hcell 0 (by omega)
        have c1 := hcell 1 (by omega)
        have c2 := hcell 2 (by omega)
        rw [add_add] at c0 c1 c2
        obtain ⟨m0, rfl, b0⟩ := nat_of_u8 w0
        obtain ⟨m1, rfl, b1⟩ := nat_of_u8 w1
        obtain ⟨m2, rfl, b2⟩ := nat_of_u8 w2
        exact ⟨(m0, m1, m2), ⟨by simpa using c0, by simpa using c1, by simpa using c2⟩, b0, b1, b2⟩
    obtain ⟨q, hq⟩ := choose_lt each
    obtain ⟨b, off, spot⟩ := x
    have hspot : spot = none := by simpa [Addr.add] using World.cell?_spot (hq 0 (by omega)).1.1
    subst hspot
    refine ⟨b, off, fun i => if i < n then (q i).1 else 0, fun i => if i < n then (q i).2.1 else 0, fun i => if i < n then (q i).2.2 else 0, fun _ => rfl, fun _ => ?_, fun i hi => ?_, fun i hi => ?_, fun i hi => ?_, fun i => ?_, fun i => ?_, fun i => ?_⟩
    · have := (hq 0 (by omega)).1.1
      rw [add_plain] at this
      exact World.block_lt_of_cell? W _ this
    · have := (hq i hi).1.1
      rw [add_plain] at this
      simpa only [hi, if_true] using this
    · have := (hq i hi).1.2.1
      rw [add_plain, ← Nat.add_assoc] at this
      simpa only [hi, if_true] using this
    · have := (hq i hi).1.2.2
      rw [add_plain, ← Nat.add_assoc] at this
      simpa only [hi, if_true] using this
    · by_cases hi : i < n
      · simp only [hi, if_true]
        exact (hq i hi).2.1
      · simp [hi]
    · by_cases hi : i < n
      · simp only [hi, if_true]
        exact (hq i hi).2.2.1
      · simp [hi]
    · by_cases hi : i < n
      · simp only [hi, if_true]
        exact (hq i hi).2.2.2
      · simp [hi]

theorem Yba.cells24 : Yba.prog.cellsOf 24 = 3 := by kernel_rfl
theorem list3 {α : Type} (l : List α) (h : (⟨l⟩ : Array α).size = 3) : ∃ a b c, l = [a, b, c] := by
  match l, h with
  | [a, b, c], _ => exact ⟨a, b, c, rfl⟩

set_option maxRecDepth 100000 in
/-- The array of three counts that came in. -/
theorem arr_of {H : Type} {enc : TypeId × Value → H} {W : World} {base : Nat} {v : Value} {d : DataW H} {p : List MemPlace} (hv : Value.okWide Yba.prog W .any base 24 v) (h : DataW.Trod enc Yba.prog W 0 (fun _ => true) true 24 v d p) :
    ∃ vf : Nat → Nat, v = .agg #[.int .u8 (vf 0), .int .u8 (vf 1), .int .u8 (vf 2)] ∧ vf 0 ≤ 255 ∧ vf 1 ≤ 255 ∧ vf 2 ≤ 255 := by
  obtain ⟨cs, rfl, hsz, _⟩ : ∃ cs, v = .agg cs ∧ cs.size = Yba.prog.cellsOf 24 ∧ Row.okWide Yba.prog W .any base 24 cs := by
    simpa [Value.okWide, Yba.underlying24] using hv
  rw [Yba.cells24] at hsz
  obtain ⟨l⟩ := cs
  obtain ⟨c0, c1, c2, rfl⟩ := list3 l hsz
  obtain ⟨fuel, hf⟩ := h
  obtain ⟨y0, y1, y2, m, hx, hy0, hy1, hy2⟩ := trod_array3 Yba.underlying24 Yba.cells5 hf
  obtain ⟨x0, e0, _, w0⟩ := DataW.trod_int Yba.underlying5 hy0
  obtain ⟨x1, e1, _, w1⟩ := DataW.trod_int Yba.underlying5 hy1
  obtain ⟨x2, e2, _, w2⟩ := DataW.trod_int Yba.underlying5 hy2
  simp at e0 e1 e2
  subst e0 e1 e2
  obtain ⟨m0, rfl, b0⟩ := nat_of_u8 w0
  obtain ⟨m1, rfl, b1⟩ := nat_of_u8 w1
  obtain ⟨m2, rfl, b2⟩ := nat_of_u8 w2
  exact ⟨fun j => if j = 0 then m0 else if j = 1 then m1 else m2, rfl, b0, b1, b2⟩

set_option maxRecDepth 100000 in
set_option maxHeartbeats 400000 in
theorem law_long (a : Option Addr) (n cp : Nat) (a' : Option Addr) (n' cp' : Nat) (v0 v1 v2 : Int) (al o : Bool) (w : World) (hm : n ≤ maxLen) (hm' : n' ≤ maxLen) (h : 1024 < n ∨ 1024 < n') :
    Calls Yba.prog 3 #[.slice a n cp, .slice a' n' cp', .agg #[.int .u8 v0, .int .u8 v1, .int .u8 v2], .bool al, .bool o] w fun e w' => e = .returned (.bool true) ∧ Below w.heap.size w w' := by
  unfold maxLen at hm hm'
  by_cases hn : 1024 < n
  · have hnI : (1024 : Int) < (n : Int) := by omega
    go_enter Yba.func3, Yba.ntmps3
    go_wp2
    go_ret
    exact ⟨rfl, (Below.refl _ _).alloc (Nat.le_refl _) _⟩
  · have hnI : ¬ (1024 : Int) < (n : Int) := by omega
    have hnI' : (1024 : Int) < (n' : Int) := by omega
    go_enter Yba.func3, Yba.ntmps3
    go_wp2
    go_ret
    exact ⟨rfl, (Below.refl _ _).alloc (Nat.le_refl _) _⟩

end Go.Proofs.Ybulkfym

namespace Go.Proofs.Ybulkfym.lawS0337CRestrict
open Go.RowKit Go.Deep Go.ChangeShapes Go.WideShapes Go.ChangeAt

theorem laidOut : laidOutB Yba.prog = true := by kernel_rfl
theorem own : ownKnob Yba.prog.godebug = none := by kernel_rfl

theorem walk (a : Option Addr) (n cp : Nat) (a' : Option Addr) (n' cp' : Nat) (vf : Nat → Nat) (al o : Bool) (w : World) (hm : n ≤ maxLen) (hm' : n' ≤ maxLen) (hv0 : vf 0 ≤ 255) (hv1 : vf 1 ≤ 255) (hv2 : vf 2 ≤ 255)
    (hd : ∃ b off R C, DotsIn w a n b off R C) (hk : ∃ b off R C N, KeysIn w a' n' b off R C N) :
    Calls Yba.prog 3 #[.slice a n cp, .slice a' n' cp', .agg #[.int .u8 (vf 0), .int .u8 (vf 1), .int .u8 (vf 2)], .bool al, .bool o] w fun e w' => e = .returned (.bool true) ∧ Below w.heap.size w w' := by
  by_cases hl : 1024 < n ∨ 1024 < n'
  · exact law_long a n cp a' n' cp' _ _ _ al o w hm hm' hl
  · obtain ⟨b, off, R, C, hd⟩ := hd
    obtain ⟨b', off', R', C', N', hk⟩ := hk
    exact law_short a n cp b off R C a' n' cp' b' off' R' C' N' vf al o w (by omega) (by omega) hv0 hv1 hv2 hd hk

set_option maxRecDepth 100000 in
theorem lifted (os : Os) (started : os.Started) (H : Type) (enc : TypeId × Value → H) :
    ReturnsInHanded {} Yba.checked os 3 .any (Rows.lawS0337CRestrictSpec.pre6 enc Yba.prog Yba.f3 Rows.lawS0337CRestrictRow.domain false) (Rows.lawS0337CRestrictSpec.post enc Yba.prog Yba.f3 false true false false) := by
  refine returnsInHanded_of_change (C := Yba.checked) own started (by kernel_rfl) Yba.func3
    (ChangeSpec.witness6 (enc := enc) (C := Yba.checked) false ⟨#[], #[.slice none 0 0, .slice none 0 0, .agg #[.int .u8 0, .int .u8 0, .int .u8 0], .bool false, .bool false], []⟩ 8 (by kernel_rfl) (by kernel_rfl) (by kernel_rfl) (by kernel_rfl)) ?_
  intro W base args ds gs before hval0 hW hcnd _
  have hval : ∀ (j : Nat) t v, Yba.f3.params[j]? = some t → args[j]? = some v → Value.okWide Yba.prog W .any base t v := hval0
  have hW' := hW
  obtain ⟨p, q, hA0, hV, rfl, hfz, hnd⟩ := hW
  have hA : DataW.TrodAll enc Yba.prog W 0 (fun _ => true) true Yba.f3.params.toList args.toList ds p := hA0
  rw [Yba.params3] at hA hval
  obtain ⟨v0, vs0, d0, ds0, p0, q0, hargs, rfl, rfl, h0, r0⟩ := trodAll_cons hA
  obtain ⟨v1, vs1, d1, ds1, p1, q1, rfl, rfl, rfl, h1, r1⟩ := trodAll_cons r0
  obtain ⟨v2, vs2, d2, ds2, p2, q2, rfl, rfl, rfl, h2, r2⟩ := trodAll_cons r1
  obtain ⟨v3, vs3, d3, ds3, p3, q3, rfl, rfl, rfl, h3, r3⟩ := trodAll_cons r2
  obtain ⟨v4, vs4, d4, ds4, p4, q4, rfl, rfl, rfl, h4, r4⟩ := trodAll_cons r3
  obtain ⟨rfl, rfl, rfl⟩ := trodAll_nil r4
  obtain rfl : args = #[v0, v1, v2, v3, v4] := by cases args; simp_all
  obtain ⟨rfl, rfl⟩ := trodVars_none hV
  obtain ⟨a0, len0, cap0, rfl⟩ := okWide_slice Yba.underlying22 (hval 0 22 v0 rfl rfl)
  have lt0 : ∀ x ∈ p0, x.block < W.heap.size := by obtain ⟨m, hm⟩ := h0; exact DataW.trod_lt m _ _ _ hm
  obtain ⟨m0, s0⟩ := dots_of h0
  obtain ⟨a1, len1, cap1, rfl⟩ := okWide_slice Yba.underlying23 (hval 1 23 v1 rfl rfl)
  have lt1 : ∀ x ∈ p1, x.block < W.heap.size := by obtain ⟨m, hm⟩ := h1; exact DataW.trod_lt m _ _ _ hm
  obtain ⟨m1, s1⟩ := keys_of h1
  have lt2 : ∀ x ∈ p2, x.block < W.heap.size := by obtain ⟨m, hm⟩ := h2; exact DataW.trod_lt m _ _ _ hm
  obtain ⟨vf, rfl, b0, b1, b2⟩ := arr_of (hval 2 24 v2 rfl rfl) h2
  obtain ⟨a3, rfl, rfl, rfl⟩ := open_bool Yba.underlying4 (hval 3 4 v3 rfl rfl) h3
  obtain ⟨a4, rfl, rfl, rfl⟩ := open_bool Yba.underlying4 (hval 4 4 v4 rfl rfl) h4
  clear hA0 hval0
  refine (walk a0 len0 cap0 a1 len1 cap1 vf a3 a4 W m0 m1 b0 b1 b2 s0 s1).mono fun e W' ⟨he, bel⟩ => ?_
  subst he
  exact ⟨_, rfl, _, _, _, [], _, [], hW', trodAll_mk1 (shut_bool Yba.underlying4 _), (trodAll_cons_mk (Below.trod laidOut (by kernel_rfl) (of_decide_eq_true (by kernel_rfl)) h0 bel lt0) (trodAll_cons_mk (Below.trod laidOut (by kernel_rfl) (of_decide_eq_true (by kernel_rfl)) h1 bel lt1) (trodAll_cons_mk (Below.trod laidOut (by kernel_rfl) (of_decide_eq_true (by kernel_rfl)) h2 bel lt2) (trodAll_cons_mk (shut_bool Yba.underlying4 _) (trodAll_cons_mk (shut_bool Yba.underlying4 _) trodAll_mk0))))), rfl, bel.frame _, fun h => by cases h⟩

theorem over : Rows.lawS0337CRestrictRow.holds Yba.pinned (OpenSpec.ofChange Rows.lawS0337CRestrictSpec) :=
  OpenClaim.holds_of_wide 3 Yba.f3 rfl rfl rfl rfl rfl rfl rfl ⟨rfl, rfl, rfl, rfl, rfl⟩ rfl rfl rfl rfl rfl (by kernel_rfl) Yba.func3 (by kernel_rfl)
    (of_decide_eq_true (by kernel_rfl)) (by unfold Func.isWrapper; first | (rw [if_pos (by decide +kernel)]; kernel_rfl) | (rw [if_neg (by decide +kernel)]; exact ⟨rfl, rfl⟩))
    (fun os started H enc _ => lifted os started H enc)

/-- THE STATEMENT. -/
theorem proved : Rows.LawS0337CRestrictSaid := over
end Go.Proofs.Ybulkfym.lawS0337CRestrict
