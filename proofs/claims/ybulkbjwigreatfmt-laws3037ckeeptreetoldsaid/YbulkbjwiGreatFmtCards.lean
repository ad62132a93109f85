/-
  DERIVED. GIVEN WITH THE SEED: THE CARDS: each row of YbulkbjwiGreatFmtRows.lean that lists a variable, with what it lists TIED to the program's text (the seventh form; the later family's looks); each row that meets fmt, with fmt's text TOLD by the authors' own Lean function (tested against real Go, not proved from fmt's source: count such statements apart). THE CARD IS WHAT COUNTS. Prove the row's statement (the work); the ties are given (YbulkbjwiGreatFmtTie.lean); close each card by the builder's one call (the guide's Derived/Test/ToyasCard.lean, 'card_holds'). Laid BY PROGRAM, IN A SANDBOX (cutbox-door.mjs). By AI agents, Wed Nov 11 2026. No macro, syntax, notation, axiom, sorry.
-/
import Derived.Test.YbulkbjwiGreatFmtRows
import GoSem.ClaimSeven
namespace Go.Proofs.YbulkbjwiGreatFmt
namespace Rows

/-- THE TOLD CARD OF 'thicket.LawS3037CUnsolved'. -/
def lawS3037CUnsolvedCard : Claim7 := { stood := { row := lawS3037CUnsolvedRow, standIns := [], harness := (true, "c3acc1645b9c1eb27b2c69fd2e3c87f70f6d61a388c266b2bc77072060c33cf2"), looks := false }, told := true, goes := false }
def LawS3037CUnsolvedToldSaid : Prop := Claim7.holds Ybaz.pinned (.plain (OpenSpec.ofChange lawS3037CUnsolvedSpec)) lawS3037CUnsolvedCard
/-- ITS FALSE NEIGHBOUR. Refute it at one input. -/
def LawS3037CUnsolvedToldWrongFalsely : Prop := Claim7.holds Ybaz.pinned (.plain (OpenSpec.ofChange lawS3037CUnsolvedWrong)) lawS3037CUnsolvedCard

/-- THE TOLD CARD OF 'thicket.LawS3037CKeepTree'. -/
def lawS3037CKeepTreeCard : Claim7 := { stood := { row := lawS3037CKeepTreeRow, standIns := [], harness := (true, "c3acc1645b9c1eb27b2c69fd2e3c87f70f6d61a388c266b2bc77072060c33cf2"), looks := false }, told := true, goes := false }
def LawS3037CKeepTreeToldSaid : Prop := Claim7.holds Ybaz.pinned (.plain (OpenSpec.ofChange lawS3037CKeepTreeSpec)) lawS3037CKeepTreeCard
/-- ITS FALSE NEIGHBOUR. Refute it at one input. -/
def LawS3037CKeepTreeToldWrongFalsely : Prop := Claim7.holds Ybaz.pinned (.plain (OpenSpec.ofChange lawS3037CKeepTreeWrong)) lawS3037CKeepTreeCard
end Rows
end Go.Proofs.YbulkbjwiGreatFmt
