/-
  No cell of these rows narrows 'for every input' (looked for: loops, veiled, ifaces, maps, wideKeys, modest, calm, conditions, laid).
  DERIVED. THE GIVEN ROWS OF THIS SEAT. 1 by the template 'for every input the law returns true; each argument reads behind the call as it read before'; 0 by the template 'total and deterministic' (their statements: YbulkfymTotals.lean).
  GIVEN WITH THE SEED: the statements are not yours to turn. If you find one false, say at which input.
  Laid BY PROGRAM, IN A SANDBOX (cutbox-rows.mjs): the forced cells as the released guide's own fill.sh prints them over the translation e231c9eb50203961… (all of the seat's roots in one cut). By AI agents, Wed Nov 11 2026. No macro, syntax, notation, axiom, sorry.
-/
import Derived.Test.YbulkfymChecked
import GoSem.Claim
import GoSem.ClaimJoined
import GoSem.ClaimMapViews
import Derived.JoinedTies
import Derived.KernelRfl
namespace Go.Proofs.Ybulkfym
/- THE CELL 'sum', in the pinned program and in every row, IS THE sha256 OF THE DUMP (.gsa) THAT YbulkfymProg.lean LOADS. Nothing in Lean hashes anything: it is a label: what it is worth is what the hold of that sum in a sandbox is worth. -/
noncomputable def Yba.pinned : Pinned := { name := "ybulkfym", sum := "e231c9eb50203961687f05970b38b2837372dba037f7d6fe0c718769aa53637b", checked := Yba.checked }
namespace Rows
def none {H : Type} : Left H := { results := [], args := [] }

/-- 'driftless.LawS0337CRestrict': WHATEVER THE INPUT: true; the input reads as it did. -/
def lawS0337CRestrictSpec : ChangeSpec := { name := "lawS0337CRestrict", fn := fun _ => fun
  | [d1, d2, d3, d4, d5] => { results := [.lit (.bool true)], args := [d1, d2, d3, d4, d5] }
  | _ => none }
def lawS0337CRestrictRow : OpenClaim := { program := "ybulkfym", sum := "e231c9eb50203961687f05970b38b2837372dba037f7d6fe0c718769aa53637b", func := "example.com/driftless/driftless.LawS0337CRestrict", spec := "lawS0337CRestrict", inPlace := ["internal/bytealg.abigen_runtime_cmpstring"], unfollowed := true, recurses := true, apart := false }
def LawS0337CRestrictSaid : Prop := lawS0337CRestrictRow.holds Yba.pinned (OpenSpec.ofChange lawS0337CRestrictSpec)

/-- ITS FALSE NEIGHBOUR: 'it returns false'. Refute it at one input. -/
def lawS0337CRestrictWrong : ChangeSpec := { name := "lawS0337CRestrict", fn := fun _ => fun
  | [d1, d2, d3, d4, d5] => { results := [.lit (.bool false)], args := [d1, d2, d3, d4, d5] }
  | _ => none }
def LawS0337CRestrictWrongFalsely : Prop := lawS0337CRestrictRow.holds Yba.pinned (OpenSpec.ofChange lawS0337CRestrictWrong)

end Rows
end Go.Proofs.Ybulkfym
