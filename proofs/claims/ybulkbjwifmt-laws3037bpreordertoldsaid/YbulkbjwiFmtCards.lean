/-
  DERIVED. GIVEN WITH THE SEED: THE CARDS: each row of YbulkbjwiFmtRows.lean that lists a variable, with what it lists TIED to the program's text (the seventh form; the later family's looks); each row that meets fmt, with fmt's text TOLD by the authors' own Lean function (tested against real Go, not proved from fmt's source: count such statements apart). THE CARD IS WHAT COUNTS. Prove the row's statement (the work); the ties are given (YbulkbjwiFmtTie.lean); close each card by the builder's one call (the guide's Derived/Test/ToyasCard.lean, 'card_holds'). Laid BY PROGRAM, IN A SANDBOX (cutbox-door.mjs). By AI agents, Wed Nov 11 2026. No macro, syntax, notation, axiom, sorry.
-/
import Derived.Test.YbulkbjwiFmtRows
import GoSem.ClaimSeven
namespace Go.Proofs.YbulkbjwiFmt
namespace Rows

/-- THE TOLD CARD OF 'kdtree.LawS3037BPreorder'. -/
def lawS3037BPreorderCard : Claim7 := { stood := { row := lawS3037BPreorderRow, standIns := [], harness := (true, "6af472aae1e6e73c9d482f610f30b8741b961cc8a54e96f527cd7147280e4241"), looks := false }, told := true, goes := false }
def LawS3037BPreorderToldSaid : Prop := Claim7.holds Ybaf.pinned (.plain (OpenSpec.ofChange lawS3037BPreorderSpec)) lawS3037BPreorderCard
/-- ITS FALSE NEIGHBOUR. Refute it at one input. -/
def LawS3037BPreorderToldWrongFalsely : Prop := Claim7.holds Ybaf.pinned (.plain (OpenSpec.ofChange lawS3037BPreorderWrong)) lawS3037BPreorderCard

/-- THE TOLD CARD OF 'kdtree.LawS3037BStop'. -/
def lawS3037BStopCard : Claim7 := { stood := { row := lawS3037BStopRow, standIns := [], harness := (true, "6af472aae1e6e73c9d482f610f30b8741b961cc8a54e96f527cd7147280e4241"), looks := false }, told := true, goes := false }
def LawS3037BStopToldSaid : Prop := Claim7.holds Ybaf.pinned (.plain (OpenSpec.ofChange lawS3037BStopSpec)) lawS3037BStopCard
/-- ITS FALSE NEIGHBOUR. Refute it at one input. -/
def LawS3037BStopToldWrongFalsely : Prop := Claim7.holds Ybaf.pinned (.plain (OpenSpec.ofChange lawS3037BStopWrong)) lawS3037BStopCard
end Rows
end Go.Proofs.YbulkbjwiFmt
