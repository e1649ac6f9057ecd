/-
  The numbers under which this translation holds the locks' functions and types, and that it holds them (after the guide's StatsLocks.lean; the tool that prints such a text does not lie here: typed by hand, checked by the kernel).
-/
import Derived.Test.YbulkfueProg
import Derived.Conc.RwLib
import Derived.KernelRfl
namespace Go.Proofs
abbrev Yba.muLink : Go.Conc.Locks.MuLink := { lock := 20, unlock := 21, ilock := 24, iunlock := 25, lockSlow := 30, unlockSlow := 33, disable := 26, enable := 28, acquire := 29, relMerge := 31, cas32 := 27, add32 := 32, tMutex := 41, tIMutex := 39, tPMutex := 73, tPIMutex := 74, tPI32 := 76, tUP := 78, tNoCopy := 36, tU32 := 37 }
theorem Yba.muLib : Go.Conc.Locks.MuLib Yba.prog Yba.muLink :=
  ⟨Yba.func20, Yba.func21, Yba.func24, Yba.func25, Yba.func26, Yba.func28, Yba.func29, Yba.func31, Yba.func27, Yba.func32, Yba.underlying39, Yba.runUnderlying39, Yba.sizeOf39, Yba.isAgg39, Yba.zeroValue39, Yba.underlying41, Yba.runUnderlying41, Yba.sizeOf41, Yba.isAgg41, Yba.zeroValue41, Yba.underlying73, Yba.runUnderlying73, Yba.sizeOf73, Yba.isAgg73, Yba.zeroValue73, Yba.underlying74, Yba.runUnderlying74, Yba.sizeOf74, Yba.isAgg74, Yba.zeroValue74, Yba.underlying76, Yba.runUnderlying76, Yba.sizeOf76, Yba.isAgg76, Yba.zeroValue76, Yba.underlying78, Yba.runUnderlying78, Yba.sizeOf78, Yba.isAgg78, Yba.zeroValue78, Yba.underlying36, Yba.runUnderlying36, Yba.sizeOf36, Yba.isAgg36, Yba.zeroValue36, Yba.underlying21, Yba.runUnderlying21, Yba.sizeOf21, Yba.isAgg21, Yba.zeroValue21, (by kernel_rfl)⟩
end Go.Proofs
