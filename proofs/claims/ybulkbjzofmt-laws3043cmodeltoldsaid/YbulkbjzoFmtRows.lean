/-
  No cell of these rows narrows 'for every input' (looked for: loops, veiled, ifaces, maps, wideKeys, modest, calm, conditions, laid).
  DERIVED. THE GIVEN ROWS OF THIS SEAT. 1 by the template 'for every input the law returns true; each argument reads behind the call as it read before'; 0 by the template 'total and deterministic' (their statements: YbulkbjzoFmtTotals.lean).
  GIVEN WITH THE SEED: the statements are not yours to turn. If you find one false, say at which input.
  Laid BY PROGRAM, IN A SANDBOX (cutbox-rows.mjs): the forced cells as the released guide's own fill.sh prints them over the translation a2490dec3573064e… (all of the seat's roots in one cut). By AI agents, Wed Nov 11 2026. No macro, syntax, notation, axiom, sorry.
-/
import Derived.Test.YbulkbjzoFmtChecked
import GoSem.Claim
import GoSem.ClaimJoined
import GoSem.ClaimMapViews
import Derived.JoinedTies
import Derived.KernelRfl
namespace Go.Proofs.YbulkbjzoFmt
/- THE CELL 'sum', in the pinned program and in every row, IS THE sha256 OF THE DUMP (.gsa) THAT YbulkbjzoFmtProg.lean LOADS. Nothing in Lean hashes anything: it is a label: what it is worth is what the hold of that sum in a sandbox is worth. -/
noncomputable def Ybaf.pinned : Pinned := { name := "ybulkbjzofmt", sum := "a2490dec3573064ee399a4d7e0938eb479fc77a535fd8b2cfb70749acaa9daa4", checked := Ybaf.checked }
namespace Rows
def none {H : Type} : Left H := { results := [], args := [] }

/-- 'lazylayer.LawS3043CModel': WHATEVER THE INPUT: true; the input reads as it did. -/
def lawS3043CModelSpec : ChangeSpec := { name := "lawS3043CModel", fn := fun _ => fun
  | [d1, d2] => { results := [.lit (.bool true)], args := [d1, d2] }
  | _ => none }
def lawS3043CModelRow : OpenClaim := { program := "ybulkbjzofmt", sum := "a2490dec3573064ee399a4d7e0938eb479fc77a535fd8b2cfb70749acaa9daa4", func := "example.com/lazylayer/lazylayer.LawS3043CModel", spec := "lawS3043CModel", stops := ["fmt.errorf"], inPlace := ["fmt.errorf"], unfollowed := true, recurses := true, apart := false }
/-- NO THEOREM (fmt's text is open here; it may be false): for the released tool's asking of the row's closed facts alone. THE STATEMENT IS 'LawS3043CModelToldSaid' (YbulkbjzoFmtCards.lean). -/
def LawS3043CModelFormAsk : Prop := lawS3043CModelRow.holds Ybaf.pinned (OpenSpec.ofChange lawS3043CModelSpec)

/-- ITS FALSE NEIGHBOUR: 'it returns false'. Refute it at one input. -/
def lawS3043CModelWrong : ChangeSpec := { name := "lawS3043CModel", fn := fun _ => fun
  | [d1, d2] => { results := [.lit (.bool false)], args := [d1, d2] }
  | _ => none }
def LawS3043CModelWrongFormAsk : Prop := lawS3043CModelRow.holds Ybaf.pinned (OpenSpec.ofChange lawS3043CModelWrong)

end Rows
end Go.Proofs.YbulkbjzoFmt
