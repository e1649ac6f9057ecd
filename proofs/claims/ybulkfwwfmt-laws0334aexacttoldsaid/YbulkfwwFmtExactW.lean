/-
  LawS0334AExact: the model's contract and the walk.
-/
import Derived.Test.YbulkfwwFmtBase
import Derived.Deep.QuietTactic
import Derived.BigQuiet
import Derived.Deep.RegionWith
namespace Go.Proofs.YbulkfwwFmt
open Go.RowKit Go.Extern.Stop Go.Stop Go.Extern

set_option maxHeartbeats 1000000 in
theorem allowed_any (b : UInt8) (w : World) : Calls Ybaf.prog 8 #[.int .u8 b.toNat] w fun e w' => e = .returned (.bool (alB b)) ∧ w' = w := by
  have h0 : (0 : Int) ≤ (b.toNat : Int) := by omega
  have h1 : (b.toNat : Int) ≤ 255 := by have := b.toNat_lt; omega
  rcases byte_ranges _ h0 h1 with h | h | h | h | h | h | h
  · rw [alB_true (.inl h)]
    go_enter Ybaf.func8, Ybaf.ntmps8
    go_wp2
    go_ret
    exact ⟨rfl, rfl⟩
  · rw [alB_true (.inr (.inl h))]
    go_enter Ybaf.func8, Ybaf.ntmps8
    go_wp2
    go_ret
    exact ⟨rfl, rfl⟩
  · rw [alB_true (.inr (.inr h))]
    go_enter Ybaf.func8, Ybaf.ntmps8
    go_wp2
    go_ret
    exact ⟨rfl, rfl⟩
  · have h45 : ((b.toNat : Int) == 45) = false := by rw [beq_eq_false_iff_ne]; omega
    rw [alB_false (.inl h)]
    go_enter Ybaf.func8, Ybaf.ntmps8
    go_wp2
    go_ret
    exact ⟨rfl, rfl⟩
  · have h45 : ((b.toNat : Int) == 45) = false := by rw [beq_eq_false_iff_ne]; omega
    rw [alB_false (.inr (.inl h))]
    go_enter Ybaf.func8, Ybaf.ntmps8
    go_wp2
    go_ret
    exact ⟨rfl, rfl⟩
  · have h45 : ((b.toNat : Int) == 45) = false := by rw [beq_eq_false_iff_ne]; omega
    have h57 : decide ((b.toNat : Int) ≤ 57) = false := decide_eq_false (by omega)
    rw [alB_false (.inr (.inr (.inl h)))]
    go_enter Ybaf.func8, Ybaf.ntmps8
    go_wp2
    go_ret
    exact ⟨rfl, rfl⟩
  · have h45 : ((b.toNat : Int) == 45) = false := by rw [beq_eq_false_iff_ne]; omega
    have h57 : decide ((b.toNat : Int) ≤ 57) = false := decide_eq_false (by omega)
    have h122 : decide ((b.toNat : Int) ≤ 122) = false := decide_eq_false (by omega)
    rw [alB_false (.inr (.inr (.inr h)))]
    go_enter Ybaf.func8, Ybaf.ntmps8
    go_wp2
    go_ret
    exact ⟨rfl, rfl⟩

theorem ret_bool {a b : Bool} (h : a = b) : Ending.returned (.bool a) = .returned (.bool b) := by rw [h]

set_option maxHeartbeats 1000000 in
theorem model_any (s : ByteArray) (w : World) (hs : s.size ≤ maxLen) : Calls Ybaf.prog 6 #[.string s] w fun e w' => e = .returned (.bool (okB s)) ∧ w' = w := by
  unfold maxLen at hs
  by_cases hl1 : s.size < 1
  · have hf : okB s = false := by simp only [okB, show ¬ 1 ≤ s.size by omega, decide_false, Bool.and_false, Bool.false_and]
    rw [hf]
    clear hf
    go_enter Ybaf.func6, Ybaf.ntmps6
    go_wp2
    go_ret
    exact ⟨rfl, rfl⟩
  by_cases hl2 : 32 < s.size
  · have hf : okB s = false := by simp only [okB, show ¬ s.size ≤ 32 by omega, decide_false, Bool.and_false]
    rw [hf]
    clear hf
    go_enter Ybaf.func6, Ybaf.ntmps6
    go_wp2
    go_ret
    exact ⟨rfl, rfl⟩
  have HO : Hid (okB s = s.data.toList.all alB) := by
    show _ = _
    simp only [okB, show 1 ≤ s.size by omega, show s.size ≤ 32 by omega, decide_true, Bool.and_true]
  go_enter Ybaf.func6, Ybaf.ntmps6
  go_wp2
  go_loop [3] (fun i => ∃ k : Nat, k ≤ s.size ∧ i = .int .i64 k ∧ ∀ j (h : j < s.size), j < k → alB (s[j]'h) = true) (fun i => s.size - (intOf i).toNat)
  case atStart => exact ⟨0, Nat.zero_le _, rfl, fun j _ h => by omega⟩
  case round =>
    obtain ⟨k, hk, rfl, hall⟩ := hrel
    have HA : Hid (∀ j (h : j < s.size), j < k → alB (s[j]'h) = true) := hall
    clear hall
    by_cases hlt : k < s.size
    · cases ha : alB s[k] with
      | true =>
        have HN : Hid (∀ j (h : j < s.size), j < k + 1 → alB (s[j]'h) = true) := fun j h hj => by
          by_cases e : j = k
          · subst e; exact ha
          · exact HA.out j h (by omega)
        have hC := allowed_any s[k]
        rw [ha] at hC
        clear ha
        go_wp2_with (go_at_call 8; refine (hC _).mono ?_; rintro e w' ⟨rfl, rfl⟩)
        go_round
        case rel => exact ⟨k + 1, by omega, by go_num, HN.out⟩
        case measure => simp [intOf]; omega
      | false =>
        have HF : Hid (okB s = false) := by
          show _ = _
          rw [HO.out, List.all_eq_false]
          exact ⟨s[k], get_mem s k hlt, by rw [ha]; simp⟩
        have hC := allowed_any s[k]
        rw [ha] at hC
        clear ha
        go_wp2_with (go_at_call 8; refine (hC _).mono ?_; rintro e w' ⟨rfl, rfl⟩)
        go_ret
        exact ⟨ret_bool HF.out.symm, rfl⟩
    · have HT : Hid (okB s = true) := by
        show _ = _
        rw [HO.out, List.all_eq_true]
        intro c hc
        obtain ⟨j, hj, rfl⟩ := List.getElem_of_mem hc
        have hj' : j < s.size := by simpa using hj
        exact HA.out j hj' (by omega)
      go_wp2
      go_ret
      exact ⟨ret_bool HT.out.symm, rfl⟩

set_option maxHeartbeats 1000000 in
theorem exact_walk (F : Interp) (s : ByteArray) (w : World) (hF : F.answers w.tape) (hs : s.size ≤ maxLen) :
    Calls Ybaf.prog 3 #[.string s] w fun e w' => e = .returned (.bool true) ∧ Below w.heap.size w w' := by
  cases hok : okB s with
  | true =>
    have hM : ∀ w, Calls Ybaf.prog 6 #[.string s] w fun e w' => e = .returned (.bool true) ∧ w' = w := fun w => by
      have := model_any s w hs
      rw [hok] at this
      exact this
    have hV := fun w => validate_ok s w hok
    clear hok
    go_enter Ybaf.func3, Ybaf.ntmps3
    go_wp2
    go_quiet (first | (go_at_call 5; exact Calls.quiet_of_same (hV _)) | (go_at_call 6; exact Calls.quiet_of_same (hM _)))
    go_wp2
    go_ret
    exact ⟨rfl, below_drewN (Below.refl _ _) _⟩
  | false =>
    have hM : ∀ w, Calls Ybaf.prog 6 #[.string s] w fun e w' => e = .returned (.bool false) ∧ w' = w := fun w => by
      have := model_any s w hs
      rw [hok] at this
      exact this
    have hV : Calls Ybaf.prog 5 #[.string s] w.drew fun e w' => (∃ a, e = .returned (.iface 32 (.pointer (some a)))) ∧ Below w.heap.size w w' := (validate_bad F s w.drew hF hs hok).mono fun e w' ⟨h1, h2⟩ => ⟨h1, (Below.refl _ _).drew.trans h2⟩
    clear hok
    go_enter Ybaf.func3, Ybaf.ntmps3
    go_wp2
    go_region_with (first | (go_at_call 5; refine hV.mono ?_; rintro e w' ⟨⟨a, rfl⟩, hb⟩) | (go_at_call 6; refine (hM _).mono ?_; rintro e w' ⟨rfl, rfl⟩))
    all_goals go_wp2
    all_goals go_ret
    all_goals exact ⟨rfl, by assumption⟩
end Go.Proofs.YbulkfwwFmt
