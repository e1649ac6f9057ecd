/-
  No cell of these rows narrows 'for every input' (looked for: loops, veiled, ifaces, maps, wideKeys, modest, calm, conditions, laid).
  DERIVED. THE GIVEN ROWS OF THIS SEAT. 2 by the template 'for every input the law returns true; each argument reads behind the call as it read before'; 0 by the template 'total and deterministic' (their statements: YbulkfwwFmtTotals.lean).
  GIVEN WITH THE SEED: the statements are not yours to turn. If you find one false, say at which input.
  Laid BY PROGRAM, IN A SANDBOX (cutbox-rows.mjs): the forced cells as the released guide's own fill.sh prints them over the translation 67733bcaefb6ea0c… (all of the seat's roots in one cut). By AI agents, Wed Nov 11 2026. No macro, syntax, notation, axiom, sorry.
-/
import Derived.Test.YbulkfwwFmtChecked
import GoSem.Claim
import GoSem.ClaimJoined
import GoSem.ClaimMapViews
import Derived.JoinedTies
import Derived.KernelRfl
namespace Go.Proofs.YbulkfwwFmt
/- THE CELL 'sum', in the pinned program and in every row, IS THE sha256 OF THE DUMP (.gsa) THAT YbulkfwwFmtProg.lean LOADS. Nothing in Lean hashes anything: it is a label: what it is worth is what the hold of that sum in a sandbox is worth. -/
noncomputable def Ybaf.pinned : Pinned := { name := "ybulkfwwfmt", sum := "67733bcaefb6ea0c6d21cf38178ebd9b27da336dd4c213f396dea52dde39272b", checked := Ybaf.checked }
namespace Rows
def none {H : Type} : Left H := { results := [], args := [] }

/-- 'raft.LawS0334AExact': WHATEVER THE INPUT: true; the input reads as it did. -/
def lawS0334AExactSpec : ChangeSpec := { name := "lawS0334AExact", fn := fun _ => fun
  | [d] => { results := [.lit (.bool true)], args := [d] }
  | _ => none }
def lawS0334AExactRow : OpenClaim := { program := "ybulkfwwfmt", sum := "67733bcaefb6ea0c6d21cf38178ebd9b27da336dd4c213f396dea52dde39272b", func := "example.com/quorumline/quorumline/internal/raft.LawS0334AExact", spec := "lawS0334AExact", stops := ["fmt.errorf"], inPlace := ["fmt.errorf"], apart := false }
/-- NO THEOREM (fmt's text is open here; it may be false): for the released tool's asking of the row's closed facts alone. THE STATEMENT IS 'LawS0334AExactToldSaid' (YbulkfwwFmtCards.lean). -/
def LawS0334AExactFormAsk : Prop := lawS0334AExactRow.holds Ybaf.pinned (OpenSpec.ofChange lawS0334AExactSpec)

/-- ITS FALSE NEIGHBOUR: 'it returns false'. Refute it at one input. -/
def lawS0334AExactWrong : ChangeSpec := { name := "lawS0334AExact", fn := fun _ => fun
  | [d] => { results := [.lit (.bool false)], args := [d] }
  | _ => none }
def LawS0334AExactWrongFormAsk : Prop := lawS0334AExactRow.holds Ybaf.pinned (OpenSpec.ofChange lawS0334AExactWrong)

/-- 'raft.LawS0334ABuilt': WHATEVER THE INPUT: true; the input reads as it did. -/
def lawS0334ABuiltSpec : ChangeSpec := { name := "lawS0334ABuilt", fn := fun _ => fun
  | [d1, d2, d3] => { results := [.lit (.bool true)], args := [d1, d2, d3] }
  | _ => none }
def lawS0334ABuiltRow : OpenClaim := { program := "ybulkfwwfmt", sum := "67733bcaefb6ea0c6d21cf38178ebd9b27da336dd4c213f396dea52dde39272b", func := "example.com/quorumline/quorumline/internal/raft.LawS0334ABuilt", spec := "lawS0334ABuilt", stops := ["fmt.errorf"], inPlace := ["fmt.errorf"], apart := false }
/-- NO THEOREM (fmt's text is open here; it may be false): for the released tool's asking of the row's closed facts alone. THE STATEMENT IS 'LawS0334ABuiltToldSaid' (YbulkfwwFmtCards.lean). -/
def LawS0334ABuiltFormAsk : Prop := lawS0334ABuiltRow.holds Ybaf.pinned (OpenSpec.ofChange lawS0334ABuiltSpec)

/-- ITS FALSE NEIGHBOUR: 'it returns false'. Refute it at one input. -/
def lawS0334ABuiltWrong : ChangeSpec := { name := "lawS0334ABuilt", fn := fun _ => fun
  | [d1, d2, d3] => { results := [.lit (.bool false)], args := [d1, d2, d3] }
  | _ => none }
def LawS0334ABuiltWrongFormAsk : Prop := lawS0334ABuiltRow.holds Ybaf.pinned (OpenSpec.ofChange lawS0334ABuiltWrong)

end Rows
end Go.Proofs.YbulkfwwFmt
