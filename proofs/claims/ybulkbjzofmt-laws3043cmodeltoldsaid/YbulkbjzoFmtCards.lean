/-
  DERIVED. GIVEN WITH THE SEED: THE CARDS: each row of YbulkbjzoFmtRows.lean that lists a variable, with what it lists TIED to the program's text (the seventh form; the later family's looks); each row that meets fmt, with fmt's text TOLD by the authors' own Lean function (tested against real Go, not proved from fmt's source: count such statements apart). THE CARD IS WHAT COUNTS. Prove the row's statement (the work); the ties are given (YbulkbjzoFmtTie.lean); close each card by the builder's one call (the guide's Derived/Test/ToyasCard.lean, 'card_holds'). Laid BY PROGRAM, IN A SANDBOX (cutbox-door.mjs). By AI agents, Wed Nov 11 2026. No macro, syntax, notation, axiom, sorry.
-/
import Derived.Test.YbulkbjzoFmtRows
import GoSem.ClaimSeven
namespace Go.Proofs.YbulkbjzoFmt
namespace Rows

/-- THE TOLD CARD OF 'lazylayer.LawS3043CModel'. -/
def lawS3043CModelCard : Claim7 := { stood := { row := lawS3043CModelRow, standIns := [], harness := (true, "15823594815d0bdea09ac52e780ed1667d56fc268ff93aa77185c87dad98e55e"), looks := false }, told := true, goes := false }
def LawS3043CModelToldSaid : Prop := Claim7.holds Ybaf.pinned (.plain (OpenSpec.ofChange lawS3043CModelSpec)) lawS3043CModelCard
/-- ITS FALSE NEIGHBOUR. Refute it at one input. -/
def LawS3043CModelToldWrongFalsely : Prop := Claim7.holds Ybaf.pinned (.plain (OpenSpec.ofChange lawS3043CModelWrong)) lawS3043CModelCard
end Rows
end Go.Proofs.YbulkbjzoFmt
