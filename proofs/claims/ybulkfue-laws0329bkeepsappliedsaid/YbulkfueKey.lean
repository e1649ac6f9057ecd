/-
  The key type protocol.Sender (type 29: a string and a uint64) of map[Sender]*mark.
-/
import Derived.Test.YbulkfueRows
import Derived.Test.YbulkfueMap
import Derived.DeepKeys4
import Derived.KernelRfl
namespace Go.Proofs.Ybulkfue
open Go.Maps (Keyed)

theorem Yba.laidOut : laidOutB Yba.prog = true := by kernel_rfl
theorem Yba.row29 : 29 < Yba.prog.types.size := of_decide_eq_true (by kernel_rfl)
theorem Yba.wide29 : (match Yba.prog.underlying 29 with | some (.array _ _) | some (.struct _) => true | _ => false) = true := by kernel_rfl
theorem Yba.law29 : Keyed Yba.prog 29 := Keyed.of_law (deep_law_laid Yba.laidOut (m := 2) (by omega) Yba.row29 (by kernel_rfl) Yba.wide29)
theorem Yba.cells29 : Yba.prog.cellsOf 29 = 2 := by kernel_rfl
theorem Yba.cells9' : Yba.prog.cellsOf 9 = 1 := by kernel_rfl
theorem Yba.cells27 : Yba.prog.cellsOf 27 = 1 := by kernel_rfl
theorem Yba.keyType29 : Yba.prog.keyType 29 = true := by kernel_rfl

/-- What a Sender reads as, as a key. -/
def klit (s : ByteArray) (e : Int) : Lit := .string (keyBytes [.string s.data.toList, .int .u64 e])

theorem keyOf_sender (s : ByteArray) (e : Int) (hs : s.size ≤ maxLen) (he : (Lit.int .u64 e).wf = true) : keyOf Yba.prog 29 (.agg #[.string s, .int .u64 e]) = some (klit s e) := by
  have hfm : Value.formed Yba.prog 29 (.agg #[.string s, .int .u64 e]) = true := by simp [Value.formed, Yba.underlying29, Yba.cells29]
  simp only [keyOf, Yba.underlying29, Yba.keyType29, hfm, Bool.and_self, if_true]
  have h0 : ∀ m, Yba.prog.keyLits (m + 2) 29 [.string s, .int .u64 e] = some [.string s.data.toList, .int .u64 e] := by
    intro m
    simp [Program.keyLits, Yba.underlying29, Yba.cells29, Yba.underlying9, Yba.underlying27, Yba.cells9', Yba.cells27, hs, he]
  obtain ⟨m, hm⟩ : ∃ m, Yba.prog.types.size = m + 1 := ⟨_, (Nat.sub_add_cancel (Nat.lt_of_le_of_lt (Nat.zero_le _) Yba.row29)).symm⟩
  rw [hm]
  simp [Value.cells, h0 m, klit]

theorem klit_inj {s s' : ByteArray} {e e' : Int} (hs : s.size ≤ maxLen) (he : (Lit.int .u64 e).wf = true) (hs' : s'.size ≤ maxLen) (he' : (Lit.int .u64 e').wf = true) (h : klit s e = klit s' e') : s = s' ∧ e = e' := by
  have := Yba.law29.inj (keyOf_sender s e hs he) (by rw [h]; exact keyOf_sender s' e' hs' he')
  simpa using this
end Go.Proofs.Ybulkfue
