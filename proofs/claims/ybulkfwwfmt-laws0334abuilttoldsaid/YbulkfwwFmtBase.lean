/-
  ValidateID and the law's helpers: a contract a function.
-/
import Derived.Test.YbulkfwwFmtRows
import Derived.Test.YbulkfwwFmtStop
import Derived.WalkKit
import Derived.WalkSpells
import Derived.WalkLawsBesides
namespace Go.Proofs.YbulkfwwFmt
open Go.RowKit Go.Extern.Stop Go.Stop Go.Extern
attribute [local go_sem] Ybaf.call9 Ybaf.guard Ybaf.fmt0 Ybaf.fmt0r Ybaf.fmt1 Ybaf.fmt1r Ybaf.op9_113 Ybaf.op3_100 Ybaf.ptr32 Ybaf.elem32

set_option maxHeartbeats 400000 in
theorem errorf_one (F : Interp) (s : ByteArray) (b : Nat) (w : World) (hF : F.answers w.tape) (hc : w.cell? ⟨b, 0, none⟩ = some (.iface 9 (.string s))) :
    Calls Ybaf.prog 7 #[.string ⟨#[110, 111, 100, 101, 32, 105, 100, 32, 37, 113, 58, 32, 111, 110, 108, 121, 32, 97, 45, 122, 44, 32, 48, 45, 57, 32, 97, 110, 100, 32, 45, 32, 97, 114, 101, 32, 97, 108, 108, 111, 119, 101, 100]⟩, .slice (some ⟨b, 0, none⟩) 1 1] w fun e w' =>
      (∃ a, e = .returned (.iface 32 (.pointer (some a)))) ∧ Below w.heap.size w w' := by
  have hF' := answers_open hF
  go_enter Ybaf.func7, Ybaf.ntmps7
  go_wp2
  go_ret
  exact ⟨⟨_, rfl⟩, ((Below.refl _ _).alloc (Nat.le_refl _) _).drew⟩

set_option maxHeartbeats 400000 in
theorem errorf_two (F : Interp) (s : ByteArray) (b : Nat) (w : World) (hF : F.answers w.tape) (hc : w.cell? ⟨b, 0, none⟩ = some (.iface 9 (.string s))) (hd : w.cell? ⟨b, 1, none⟩ = some (.iface 3 (.int .i64 32))) :
    Calls Ybaf.prog 7 #[.string ⟨#[110, 111, 100, 101, 32, 105, 100, 32, 37, 113, 58, 32, 109, 117, 115, 116, 32, 98, 101, 32, 49, 32, 116, 111, 32, 37, 100, 32, 99, 104, 97, 114, 97, 99, 116, 101, 114, 115, 32, 108, 111, 110, 103]⟩, .slice (some ⟨b, 0, none⟩) 2 2] w fun e w' =>
      (∃ a, e = .returned (.iface 32 (.pointer (some a)))) ∧ Below w.heap.size w w' := by
  have hF' := answers_open hF
  go_enter Ybaf.func7, Ybaf.ntmps7
  go_wp2
  go_ret
  exact ⟨⟨_, rfl⟩, ((Below.refl _ _).alloc (Nat.le_refl _) _).drew⟩

/-- An allowed byte. -/
def alB (c : UInt8) : Bool := (decide (97 ≤ c.toNat) && decide (c.toNat ≤ 122)) || (decide (48 ≤ c.toNat) && decide (c.toNat ≤ 57)) || decide (c.toNat = 45)
/-- A well-formed id. -/
def okB (s : ByteArray) : Bool := s.data.toList.all alB && decide (1 ≤ s.size) && decide (s.size ≤ 32)

/-- The seven ranges of a byte, in the walk's numbers. -/
theorem byte_ranges (x : Int) (h0 : 0 ≤ x) (h1 : x ≤ 255) : (97 ≤ x ∧ x ≤ 122) ∨ (48 ≤ x ∧ x ≤ 57) ∨ x = 45 ∨ x < 45 ∨ (46 ≤ x ∧ x ≤ 47) ∨ (58 ≤ x ∧ x ≤ 96) ∨ 123 ≤ x := by omega
theorem alB_true {c : UInt8} (h : (97 ≤ (c.toNat : Int) ∧ (c.toNat : Int) ≤ 122) ∨ (48 ≤ (c.toNat : Int) ∧ (c.toNat : Int) ≤ 57) ∨ (c.toNat : Int) = 45) : alB c = true := by
  simp only [alB, Bool.or_eq_true, Bool.and_eq_true, decide_eq_true_eq]
  omega
theorem alB_false {c : UInt8} (h : (c.toNat : Int) < 45 ∨ (46 ≤ (c.toNat : Int) ∧ (c.toNat : Int) ≤ 47) ∨ (58 ≤ (c.toNat : Int) ∧ (c.toNat : Int) ≤ 96) ∨ 123 ≤ (c.toNat : Int)) : alB c = false := by
  cases hb : alB c with
  | false => rfl
  | true =>
    simp only [alB, Bool.or_eq_true, Bool.and_eq_true, decide_eq_true_eq] at hb
    omega

theorem toList_len (s : ByteArray) : s.toList.length = s.size := by rw [ByteArray.toList_eq]; simp
theorem get_mem (s : ByteArray) (k : Nat) (h : k < s.size) : s[k] ∈ s.data.toList := by simp [ByteArray.getElem_eq_getElem_data]

/-- All bytes are allowed and the length is right: nil. -/
theorem validate_ok (s : ByteArray) (w : World) (hok : okB s = true) :
    Calls Ybaf.prog 5 #[.string s] w fun e w' => e = .returned .nilIface ∧ w' = w := by
  simp only [okB, Bool.and_eq_true, decide_eq_true_eq] at hok
  obtain ⟨⟨hall, hl1⟩, hl2⟩ := hok
  have hne : s.toList.isEmpty = false := by
    cases h : s.toList.isEmpty with
    | false => rfl
    | true =>
      rw [List.isEmpty_iff] at h
      have : s.toList.length = s.size := by rw [ByteArray.toList_eq]; simp
      rw [h] at this
      simp at this
      omega
  have HA : Hid (∀ k (h : k < s.size), alB (s[k]'h) = true) := by
    intro k h
    rw [List.all_eq_true] at hall
    exact hall _ (by simp [ByteArray.getElem_eq_getElem_data])
  clear hall
  go_enter Ybaf.func5, Ybaf.ntmps5
  go_wp2
  go_loop [3] (fun i => ∃ k : Nat, k ≤ s.size ∧ i = .int .i64 k) (fun i => s.size - (intOf i).toNat)
  case atStart => exact ⟨0, Nat.zero_le _, rfl⟩
  case round =>
    obtain ⟨k, hk, rfl⟩ := hrel
    by_cases hlt : k < s.size
    · have h0 : (0 : Int) ≤ (s[k].toNat : Int) := by omega
      have h1 : (s[k].toNat : Int) ≤ 255 := by have := s[k].toNat_lt; omega
      have hA := HA.out k hlt
      rcases byte_ranges _ h0 h1 with h | h | h | h | h | h | h
      · clear hA
        go_wp2
        go_round
        case rel => exact ⟨k + 1, by omega, by go_num⟩
        case measure => simp [intOf]; omega
      · clear hA
        go_wp2
        go_round
        case rel => exact ⟨k + 1, by omega, by go_num⟩
        case measure => simp [intOf]; omega
      · clear hA
        go_wp2
        go_round
        case rel => exact ⟨k + 1, by omega, by go_num⟩
        case measure => simp [intOf]; omega
      · rw [alB_false (.inl h)] at hA; cases hA
      · rw [alB_false (.inr (.inl h))] at hA; cases hA
      · rw [alB_false (.inr (.inr (.inl h)))] at hA; cases hA
      · rw [alB_false (.inr (.inr (.inr h)))] at hA; cases hA
    · go_wp2
      go_ret
      exact ⟨rfl, rfl⟩

set_option maxHeartbeats 1000000 in
/-- Some byte is not allowed, or the length is wrong: an error. -/
theorem validate_bad (F : Interp) (s : ByteArray) (w : World) (hF : F.answers w.tape) (hs : s.size ≤ maxLen) (hok : okB s = false) :
    Calls Ybaf.prog 5 #[.string s] w fun e w' => (∃ a, e = .returned (.iface 32 (.pointer (some a)))) ∧ Below w.heap.size w w' := by
  have HOK : Hid (okB s = false) := hok
  unfold maxLen at hs
  clear hok
  have hE1 := errorf_one F s w.heap.size (w.alloc (.cells #[.iface 9 (.string s)] 20)) hF (by simp [go_sem])
  have hE2 := errorf_two F s w.heap.size (w.alloc (.cells #[.iface 9 (.string s), .iface 3 (.int .i64 32)] 20)) hF (by simp [go_sem]) (by simp [go_sem])
  clear hF
  go_enter Ybaf.func5, Ybaf.ntmps5
  go_wp2
  go_loop [3] (fun i => ∃ k : Nat, k ≤ s.size ∧ i = .int .i64 k ∧ ∀ j (h : j < s.size), j < k → alB (s[j]'h) = true) (fun i => s.size - (intOf i).toNat)
  case atStart => exact ⟨0, Nat.zero_le _, rfl, fun j _ h => by omega⟩
  case round =>
    obtain ⟨k, hk, rfl, hall⟩ := hrel
    have HA : Hid (∀ j (h : j < s.size), j < k → alB (s[j]'h) = true) := hall
    clear hall
    by_cases hlt : k < s.size
    · have h0 : (0 : Int) ≤ (s[k].toNat : Int) := by omega
      have h1 : (s[k].toNat : Int) ≤ 255 := by have := s[k].toNat_lt; omega
      have hnext : alB s[k] = true → Hid (∀ j (h : j < s.size), j < k + 1 → alB (s[j]'h) = true) := fun ha j h hj => by
        by_cases e : j = k
        · subst e; exact ha
        · exact HA.out j h (by omega)
      rcases byte_ranges _ h0 h1 with h | h | h | h | h | h | h
      · have HN := hnext (alB_true (.inl h))
        clear hnext hE1 hE2
        go_wp2
        go_round
        case rel => exact ⟨k + 1, by omega, by go_num, HN.out⟩
        case measure => simp [intOf]; omega
      · have HN := hnext (alB_true (.inr (.inl h)))
        clear hnext hE1 hE2
        go_wp2
        go_round
        case rel => exact ⟨k + 1, by omega, by go_num, HN.out⟩
        case measure => simp [intOf]; omega
      · have HN := hnext (alB_true (.inr (.inr h)))
        clear hnext hE1 hE2
        go_wp2
        go_round
        case rel => exact ⟨k + 1, by omega, by go_num, HN.out⟩
        case measure => simp [intOf]; omega
      · have h45 : ((s[k].toNat : Int) == 45) = false := by rw [beq_eq_false_iff_ne]; omega
        clear hnext hE2
        go_wp2_with fail
        refine hE1.mono ?_
        rintro e w' ⟨⟨a, rfl⟩, hb⟩
        go_wp2
        go_ret
        exact ⟨⟨_, rfl⟩, ((Below.refl _ _).alloc (Nat.le_refl _) _).trans (hb.mono (by simp))⟩
      · have h45 : ((s[k].toNat : Int) == 45) = false := by rw [beq_eq_false_iff_ne]; omega
        clear hnext hE2
        go_wp2_with fail
        refine hE1.mono ?_
        rintro e w' ⟨⟨a, rfl⟩, hb⟩
        go_wp2
        go_ret
        exact ⟨⟨_, rfl⟩, ((Below.refl _ _).alloc (Nat.le_refl _) _).trans (hb.mono (by simp))⟩
      · have h45 : ((s[k].toNat : Int) == 45) = false := by rw [beq_eq_false_iff_ne]; omega
        have h57 : decide ((s[k].toNat : Int) ≤ 57) = false := decide_eq_false (by omega)
        clear hnext hE2
        go_wp2_with fail
        refine hE1.mono ?_
        rintro e w' ⟨⟨a, rfl⟩, hb⟩
        go_wp2
        go_ret
        exact ⟨⟨_, rfl⟩, ((Below.refl _ _).alloc (Nat.le_refl _) _).trans (hb.mono (by simp))⟩
      · have h45 : ((s[k].toNat : Int) == 45) = false := by rw [beq_eq_false_iff_ne]; omega
        have h57 : decide ((s[k].toNat : Int) ≤ 57) = false := decide_eq_false (by omega)
        have h122 : decide ((s[k].toNat : Int) ≤ 122) = false := decide_eq_false (by omega)
        clear hnext hE2
        go_wp2_with fail
        refine hE1.mono ?_
        rintro e w' ⟨⟨a, rfl⟩, hb⟩
        go_wp2
        go_ret
        exact ⟨⟨_, rfl⟩, ((Below.refl _ _).alloc (Nat.le_refl _) _).trans (hb.mono (by simp))⟩
    · have ek : k = s.size := by omega
      subst ek
      have hbad : s.size = 0 ∨ 32 < s.size := by
        have h1 := HOK.out
        by_cases hz : s.size = 0
        · exact .inl hz
        · right
          cases hc : decide (s.size ≤ 32) with
          | false => simpa using hc
          | true =>
            have h2 : s.data.toList.all alB = true := by
              rw [List.all_eq_true]
              intro c hc
              obtain ⟨j, hj, rfl⟩ := List.getElem_of_mem hc
              have hj' : j < s.size := by simpa using hj
              exact HA.out j hj' hj'
            simp only [okB, h2, hc, Bool.and_true, Bool.true_and, decide_eq_false_iff_not] at h1
            omega
      clear hE1
      rcases hbad with hz | hz
      · have he : s.toList.isEmpty = true := by rw [List.isEmpty_iff]; exact List.eq_nil_of_length_eq_zero (by rw [toList_len]; exact hz)
        go_wp2_with fail
        refine hE2.mono ?_
        rintro e w' ⟨⟨a, rfl⟩, hb⟩
        go_wp2
        go_ret
        exact ⟨⟨_, rfl⟩, ((Below.refl _ _).alloc (Nat.le_refl _) _).trans (hb.mono (by simp))⟩
      · have he : s.toList.isEmpty = false := by
          cases h : s.toList.isEmpty with
          | false => rfl
          | true =>
            rw [List.isEmpty_iff] at h
            have := toList_len s
            rw [h] at this
            simp at this
            omega
        go_wp2_with fail
        refine hE2.mono ?_
        rintro e w' ⟨⟨a, rfl⟩, hb⟩
        go_wp2
        go_ret
        exact ⟨⟨_, rfl⟩, ((Below.refl _ _).alloc (Nat.le_refl _) _).trans (hb.mono (by simp))⟩
end Go.Proofs.YbulkfwwFmt
