/-
  No cell of these rows narrows 'for every input' (looked for: loops, veiled, ifaces, maps, wideKeys, modest, calm, conditions, laid).
  DERIVED. THE GIVEN ROWS OF THIS SEAT. 2 by the template 'for every input the law returns true; each argument reads behind the call as it read before'; 0 by the template 'total and deterministic' (their statements: YbulkbjwiFmtTotals.lean).
  GIVEN WITH THE SEED: the statements are not yours to turn. If you find one false, say at which input.
  Laid BY PROGRAM, IN A SANDBOX (cutbox-rows.mjs): the forced cells as the released guide's own fill.sh prints them over the translation 9f57ff9482481825… (all of the seat's roots in one cut). By AI agents, Wed Nov 11 2026. No macro, syntax, notation, axiom, sorry.
-/
import Derived.Test.YbulkbjwiFmtChecked
import GoSem.Claim
import GoSem.ClaimJoined
import GoSem.ClaimMapViews
import Derived.JoinedTies
import Derived.KernelRfl
namespace Go.Proofs.YbulkbjwiFmt
/- THE CELL 'sum', in the pinned program and in every row, IS THE sha256 OF THE DUMP (.gsa) THAT YbulkbjwiFmtProg.lean LOADS. Nothing in Lean hashes anything: it is a label: what it is worth is what the hold of that sum in a sandbox is worth. -/
noncomputable def Ybaf.pinned : Pinned := { name := "ybulkbjwifmt", sum := "9f57ff9482481825a1ed508063fbc2139c66b7f69880c13ce13d234cafbd82d2", checked := Ybaf.checked }
namespace Rows
def none {H : Type} : Left H := { results := [], args := [] }

/-- 'kdtree.LawS3037BPreorder': WHATEVER THE INPUT: true; the input reads as it did. -/
def lawS3037BPreorderSpec : ChangeSpec := { name := "lawS3037BPreorder", fn := fun _ => fun
  | [d1, d2, d3, d4] => { results := [.lit (.bool true)], args := [d1, d2, d3, d4] }
  | _ => none }
def lawS3037BPreorderRow : OpenClaim := { program := "ybulkbjwifmt", sum := "9f57ff9482481825a1ed508063fbc2139c66b7f69880c13ce13d234cafbd82d2", func := "example.com/thicket/thicket/internal/kdtree.LawS3037BPreorder", spec := "lawS3037BPreorder", stops := ["fmt.errorf", "fmt.Sprintf"], inPlace := ["fmt.errorf", "math.Float64bits", "math.Float64frombits", "fmt.Sprintf", "sync/atomic.LoadPointer", "sync/atomic.CompareAndSwapPointer", "sync/atomic.LoadUint32", "sync/atomic.CompareAndSwapUint32"], unfollowed := true, recurses := true, apart := false }
/-- NO THEOREM (fmt's text is open here; it may be false): for the released tool's asking of the row's closed facts alone. THE STATEMENT IS 'LawS3037BPreorderToldSaid' (YbulkbjwiFmtCards.lean). -/
def LawS3037BPreorderFormAsk : Prop := lawS3037BPreorderRow.holds Ybaf.pinned (OpenSpec.ofChange lawS3037BPreorderSpec)

/-- ITS FALSE NEIGHBOUR: 'it returns false'. Refute it at one input. -/
def lawS3037BPreorderWrong : ChangeSpec := { name := "lawS3037BPreorder", fn := fun _ => fun
  | [d1, d2, d3, d4] => { results := [.lit (.bool false)], args := [d1, d2, d3, d4] }
  | _ => none }
def LawS3037BPreorderWrongFormAsk : Prop := lawS3037BPreorderRow.holds Ybaf.pinned (OpenSpec.ofChange lawS3037BPreorderWrong)

/-- 'kdtree.LawS3037BStop': WHATEVER THE INPUT: true; the input reads as it did. -/
def lawS3037BStopSpec : ChangeSpec := { name := "lawS3037BStop", fn := fun _ => fun
  | [d1, d2, d3, d4, d5] => { results := [.lit (.bool true)], args := [d1, d2, d3, d4, d5] }
  | _ => none }
def lawS3037BStopRow : OpenClaim := { program := "ybulkbjwifmt", sum := "9f57ff9482481825a1ed508063fbc2139c66b7f69880c13ce13d234cafbd82d2", func := "example.com/thicket/thicket/internal/kdtree.LawS3037BStop", spec := "lawS3037BStop", stops := ["fmt.errorf", "fmt.Sprintf"], inPlace := ["fmt.errorf", "math.Float64bits", "math.Float64frombits", "fmt.Sprintf", "sync/atomic.LoadPointer", "sync/atomic.CompareAndSwapPointer", "sync/atomic.LoadUint32", "sync/atomic.CompareAndSwapUint32"], unfollowed := true, recurses := true, apart := false }
/-- NO THEOREM (fmt's text is open here; it may be false): for the released tool's asking of the row's closed facts alone. THE STATEMENT IS 'LawS3037BStopToldSaid' (YbulkbjwiFmtCards.lean). -/
def LawS3037BStopFormAsk : Prop := lawS3037BStopRow.holds Ybaf.pinned (OpenSpec.ofChange lawS3037BStopSpec)

/-- ITS FALSE NEIGHBOUR: 'it returns false'. Refute it at one input. -/
def lawS3037BStopWrong : ChangeSpec := { name := "lawS3037BStop", fn := fun _ => fun
  | [d1, d2, d3, d4, d5] => { results := [.lit (.bool false)], args := [d1, d2, d3, d4, d5] }
  | _ => none }
def LawS3037BStopWrongFormAsk : Prop := lawS3037BStopRow.holds Ybaf.pinned (OpenSpec.ofChange lawS3037BStopWrong)

end Rows
end Go.Proofs.YbulkbjwiFmt
