/-
  DERIVED. GIVEN WITH THE SEED: THE CARDS: each row of YbulkfwwFmtRows.lean that lists a variable, with what it lists TIED to the program's text (the seventh form; the later family's looks); each row that meets fmt, with fmt's text TOLD by the authors' own Lean function (tested against real Go, not proved from fmt's source: count such statements apart). THE CARD IS WHAT COUNTS. Prove the row's statement (the work); the ties are given (YbulkfwwFmtTie.lean); close each card by the builder's one call (the guide's Derived/Test/ToyasCard.lean, 'card_holds'). Laid BY PROGRAM, IN A SANDBOX (cutbox-door.mjs). By AI agents, Wed Nov 11 2026. No macro, syntax, notation, axiom, sorry.
-/
import Derived.Test.YbulkfwwFmtRows
import GoSem.ClaimSeven
namespace Go.Proofs.YbulkfwwFmt
namespace Rows

/-- THE TOLD CARD OF 'raft.LawS0334AExact'. -/
def lawS0334AExactCard : Claim7 := { stood := { row := lawS0334AExactRow, standIns := [], harness := (true, "a3354b9bf83ca476bfb1b1b4c0aeb34bf3ee79c048224871e9b7b21d33e0f0b6"), looks := false }, told := true, goes := false }
def LawS0334AExactToldSaid : Prop := Claim7.holds Ybaf.pinned (.plain (OpenSpec.ofChange lawS0334AExactSpec)) lawS0334AExactCard
/-- ITS FALSE NEIGHBOUR. Refute it at one input. -/
def LawS0334AExactToldWrongFalsely : Prop := Claim7.holds Ybaf.pinned (.plain (OpenSpec.ofChange lawS0334AExactWrong)) lawS0334AExactCard

/-- THE TOLD CARD OF 'raft.LawS0334ABuilt'. -/
def lawS0334ABuiltCard : Claim7 := { stood := { row := lawS0334ABuiltRow, standIns := [], harness := (true, "a3354b9bf83ca476bfb1b1b4c0aeb34bf3ee79c048224871e9b7b21d33e0f0b6"), looks := false }, told := true, goes := false }
def LawS0334ABuiltToldSaid : Prop := Claim7.holds Ybaf.pinned (.plain (OpenSpec.ofChange lawS0334ABuiltSpec)) lawS0334ABuiltCard
/-- ITS FALSE NEIGHBOUR. Refute it at one input. -/
def LawS0334ABuiltToldWrongFalsely : Prop := Claim7.holds Ybaf.pinned (.plain (OpenSpec.ofChange lawS0334ABuiltWrong)) lawS0334ABuiltCard
end Rows
end Go.Proofs.YbulkfwwFmt
