/-
  No cell of these rows narrows 'for every input' (looked for: loops, veiled, ifaces, maps, wideKeys, modest, calm, conditions, laid).
  DERIVED. THE GIVEN ROWS OF THIS SEAT. 1 by the template 'for every input the law returns true; each argument reads behind the call as it read before'; 0 by the template 'total and deterministic' (their statements: YbulkgaqTotals.lean).
  GIVEN WITH THE SEED: the statements are not yours to turn. If you find one false, say at which input.
  Laid BY PROGRAM, IN A SANDBOX (cutbox-rows.mjs): the forced cells as the released guide's own fill.sh prints them over the translation 85e5c5626ae12e25… (all of the seat's roots in one cut). By AI agents, Wed Nov 11 2026. No macro, syntax, notation, axiom, sorry.
-/
import Derived.Test.YbulkgaqChecked
import GoSem.Claim
import GoSem.ClaimJoined
import GoSem.ClaimMapViews
import Derived.JoinedTies
import Derived.KernelRfl
namespace Go.Proofs.Ybulkgaq
/- THE CELL 'sum', in the pinned program and in every row, IS THE sha256 OF THE DUMP (.gsa) THAT YbulkgaqProg.lean LOADS. Nothing in Lean hashes anything: it is a label: what it is worth is what the hold of that sum in a sandbox is worth. -/
noncomputable def Yba.pinned : Pinned := { name := "ybulkgaq", sum := "85e5c5626ae12e250f217f5824b39edf8d03c88c315dd95a9ae7726f6e9452e6", checked := Yba.checked }
namespace Rows
def none {H : Type} : Left H := { results := [], args := [] }

/-- 'trace.LawS0341AFree': WHATEVER THE INPUT: true; the input reads as it did. -/
def lawS0341AFreeSpec : ChangeSpec := { name := "lawS0341AFree", fn := fun _ => fun
  | [d1, d2, d3, d4, d5, d6, d7] => { results := [.lit (.bool true)], args := [d1, d2, d3, d4, d5, d6, d7] }
  | _ => none }
def lawS0341AFreeRow : OpenClaim := { program := "ybulkgaq", sum := "85e5c5626ae12e250f217f5824b39edf8d03c88c315dd95a9ae7726f6e9452e6", func := "example.com/bitspan/bitspan/internal/trace.LawS0341AFree", spec := "lawS0341AFree", plainKeys := false, apart := false }
def LawS0341AFreeSaid : Prop := lawS0341AFreeRow.holds Yba.pinned (OpenSpec.ofChange lawS0341AFreeSpec)

/-- ITS FALSE NEIGHBOUR: 'it returns false'. Refute it at one input. -/
def lawS0341AFreeWrong : ChangeSpec := { name := "lawS0341AFree", fn := fun _ => fun
  | [d1, d2, d3, d4, d5, d6, d7] => { results := [.lit (.bool false)], args := [d1, d2, d3, d4, d5, d6, d7] }
  | _ => none }
def LawS0341AFreeWrongFalsely : Prop := lawS0341AFreeRow.holds Yba.pinned (OpenSpec.ofChange lawS0341AFreeWrong)

end Rows
end Go.Proofs.Ybulkgaq
