/-
  No cell of these rows narrows 'for every input' (looked for: loops, veiled, ifaces, maps, wideKeys, modest, calm, conditions, laid).
  DERIVED. THE GIVEN ROWS OF THIS SEAT. 4 by the template 'for every input the law returns true; each argument reads behind the call as it read before'; 0 by the template 'total and deterministic' (their statements: YbulkfueTotals.lean).
  GIVEN WITH THE SEED: the statements are not yours to turn. If you find one false, say at which input.
  Laid BY PROGRAM, IN A SANDBOX (cutbox-rows.mjs): the forced cells as the released guide's own fill.sh prints them over the translation 85017fcdbd08ae7d… (all of the seat's roots in one cut). By AI agents, Wed Nov 11 2026. No macro, syntax, notation, axiom, sorry.
-/
import Derived.Test.YbulkfueChecked
import GoSem.Claim
import GoSem.ClaimJoined
import GoSem.ClaimMapViews
import Derived.JoinedTies
import Derived.KernelRfl
namespace Go.Proofs.Ybulkfue
/- THE CELL 'sum', in the pinned program and in every row, IS THE sha256 OF THE DUMP (.gsa) THAT YbulkfueProg.lean LOADS. Nothing in Lean hashes anything: it is a label: what it is worth is what the hold of that sum in a sandbox is worth. -/
noncomputable def Yba.pinned : Pinned := { name := "ybulkfue", sum := "85017fcdbd08ae7d17401f2101da36289c435cf7a0c80360b24396f131510ce2", checked := Yba.checked }
namespace Rows
def none {H : Type} : Left H := { results := [], args := [] }

/-- 'deferred.LawS0329BSameMark': WHATEVER THE INPUT: true; the input reads as it did. -/
def lawS0329BSameMarkSpec : ChangeSpec := { name := "lawS0329BSameMark", fn := fun _ => fun
  | [d] => { results := [.lit (.bool true)], args := [d] }
  | _ => none }
def lawS0329BSameMarkRow : OpenClaim := { program := "ybulkfue", sum := "85017fcdbd08ae7d17401f2101da36289c435cf7a0c80360b24396f131510ce2", func := "example.com/unanimo/unanimo/internal/deferred.LawS0329BSameMark", spec := "lawS0329BSameMark", inPlace := ["(*internal/sync.Mutex).Lock", "internal/race.Disable", "sync/atomic.CompareAndSwapInt32", "internal/race.Enable", "internal/race.Acquire", "(*internal/sync.Mutex).lockSlow", "internal/sync.runtime_canSpin", "internal/sync.runtime_doSpin", "internal/sync.throw", "internal/sync.runtime_nanotime", "internal/sync.runtime_SemacquireMutex", "sync/atomic.AddInt32", "(*internal/sync.Mutex).Unlock", "internal/race.ReleaseMerge", "(*internal/sync.Mutex).unlockSlow", "internal/sync.fatal", "internal/sync.runtime_Semrelease"], plainKeys := false, apart := false }
def LawS0329BSameMarkSaid : Prop := lawS0329BSameMarkRow.holds Yba.pinned (OpenSpec.ofChange lawS0329BSameMarkSpec)

/-- ITS FALSE NEIGHBOUR: 'it returns false'. Refute it at one input. -/
def lawS0329BSameMarkWrong : ChangeSpec := { name := "lawS0329BSameMark", fn := fun _ => fun
  | [d] => { results := [.lit (.bool false)], args := [d] }
  | _ => none }
def LawS0329BSameMarkWrongFalsely : Prop := lawS0329BSameMarkRow.holds Yba.pinned (OpenSpec.ofChange lawS0329BSameMarkWrong)

/-- 'deferred.LawS0329BKeepsApplied': WHATEVER THE INPUT: true; the input reads as it did. -/
def lawS0329BKeepsAppliedSpec : ChangeSpec := { name := "lawS0329BKeepsApplied", fn := fun _ => fun
  | [d] => { results := [.lit (.bool true)], args := [d] }
  | _ => none }
def lawS0329BKeepsAppliedRow : OpenClaim := { program := "ybulkfue", sum := "85017fcdbd08ae7d17401f2101da36289c435cf7a0c80360b24396f131510ce2", func := "example.com/unanimo/unanimo/internal/deferred.LawS0329BKeepsApplied", spec := "lawS0329BKeepsApplied", inPlace := ["(*internal/sync.Mutex).Lock", "internal/race.Disable", "sync/atomic.CompareAndSwapInt32", "internal/race.Enable", "internal/race.Acquire", "(*internal/sync.Mutex).lockSlow", "internal/sync.runtime_canSpin", "internal/sync.runtime_doSpin", "internal/sync.throw", "internal/sync.runtime_nanotime", "internal/sync.runtime_SemacquireMutex", "sync/atomic.AddInt32", "(*internal/sync.Mutex).Unlock", "internal/race.ReleaseMerge", "(*internal/sync.Mutex).unlockSlow", "internal/sync.fatal", "internal/sync.runtime_Semrelease"], plainKeys := false, apart := false }
def LawS0329BKeepsAppliedSaid : Prop := lawS0329BKeepsAppliedRow.holds Yba.pinned (OpenSpec.ofChange lawS0329BKeepsAppliedSpec)

/-- ITS FALSE NEIGHBOUR: 'it returns false'. Refute it at one input. -/
def lawS0329BKeepsAppliedWrong : ChangeSpec := { name := "lawS0329BKeepsApplied", fn := fun _ => fun
  | [d] => { results := [.lit (.bool false)], args := [d] }
  | _ => none }
def LawS0329BKeepsAppliedWrongFalsely : Prop := lawS0329BKeepsAppliedRow.holds Yba.pinned (OpenSpec.ofChange lawS0329BKeepsAppliedWrong)

/-- 'protocol.LawS0329CTable': WHATEVER THE INPUT: true; the input reads as it did. -/
def lawS0329CTableSpec : ChangeSpec := { name := "lawS0329CTable", fn := fun _ => fun
  | [d1, d2, d3, d4, d5, d6] => { results := [.lit (.bool true)], args := [d1, d2, d3, d4, d5, d6] }
  | _ => none }
def lawS0329CTableRow : OpenClaim := { program := "ybulkfue", sum := "85017fcdbd08ae7d17401f2101da36289c435cf7a0c80360b24396f131510ce2", func := "example.com/unanimo/unanimo/internal/protocol.LawS0329CTable", spec := "lawS0329CTable", plainKeys := false, apart := false }
def LawS0329CTableSaid : Prop := lawS0329CTableRow.holds Yba.pinned (OpenSpec.ofChange lawS0329CTableSpec)

/-- ITS FALSE NEIGHBOUR: 'it returns false'. Refute it at one input. -/
def lawS0329CTableWrong : ChangeSpec := { name := "lawS0329CTable", fn := fun _ => fun
  | [d1, d2, d3, d4, d5, d6] => { results := [.lit (.bool false)], args := [d1, d2, d3, d4, d5, d6] }
  | _ => none }
def LawS0329CTableWrongFalsely : Prop := lawS0329CTableRow.holds Yba.pinned (OpenSpec.ofChange lawS0329CTableWrong)

/-- 'protocol.LawS0329CSecondWaits': WHATEVER THE INPUT: true; the input reads as it did. -/
def lawS0329CSecondWaitsSpec : ChangeSpec := { name := "lawS0329CSecondWaits", fn := fun _ => fun
  | [d1, d2, d3, d4, d5, d6, d7] => { results := [.lit (.bool true)], args := [d1, d2, d3, d4, d5, d6, d7] }
  | _ => none }
def lawS0329CSecondWaitsRow : OpenClaim := { program := "ybulkfue", sum := "85017fcdbd08ae7d17401f2101da36289c435cf7a0c80360b24396f131510ce2", func := "example.com/unanimo/unanimo/internal/protocol.LawS0329CSecondWaits", spec := "lawS0329CSecondWaits", plainKeys := false, apart := false }
def LawS0329CSecondWaitsSaid : Prop := lawS0329CSecondWaitsRow.holds Yba.pinned (OpenSpec.ofChange lawS0329CSecondWaitsSpec)

/-- ITS FALSE NEIGHBOUR: 'it returns false'. Refute it at one input. -/
def lawS0329CSecondWaitsWrong : ChangeSpec := { name := "lawS0329CSecondWaits", fn := fun _ => fun
  | [d1, d2, d3, d4, d5, d6, d7] => { results := [.lit (.bool false)], args := [d1, d2, d3, d4, d5, d6, d7] }
  | _ => none }
def LawS0329CSecondWaitsWrongFalsely : Prop := lawS0329CSecondWaitsRow.holds Yba.pinned (OpenSpec.ofChange lawS0329CSecondWaitsWrong)

end Rows
end Go.Proofs.Ybulkfue
