/-
  No cell of these rows narrows 'for every input' (looked for: loops, veiled, ifaces, maps, wideKeys, modest, calm, conditions, laid).
  DERIVED. THE GIVEN ROWS OF THIS SEAT. 2 by the template 'for every input the law returns true; each argument reads behind the call as it read before'; 0 by the template 'total and deterministic' (their statements: YbulkbjwiTotals.lean).
  GIVEN WITH THE SEED: the statements are not yours to turn. If you find one false, say at which input.
  Laid BY PROGRAM, IN A SANDBOX (cutbox-rows.mjs): the forced cells as the released guide's own fill.sh prints them over the translation 89e53c51c7e37d4b… (all of the seat's roots in one cut). By AI agents, Wed Nov 11 2026. No macro, syntax, notation, axiom, sorry.
-/
import Derived.Test.YbulkbjwiChecked
import GoSem.Claim
import GoSem.ClaimJoined
import GoSem.ClaimMapViews
import Derived.JoinedTies
import Derived.KernelRfl
namespace Go.Proofs.Ybulkbjwi
/- THE CELL 'sum', in the pinned program and in every row, IS THE sha256 OF THE DUMP (.gsa) THAT YbulkbjwiProg.lean LOADS. Nothing in Lean hashes anything: it is a label: what it is worth is what the hold of that sum in a sandbox is worth. -/
noncomputable def Yba.pinned : Pinned := { name := "ybulkbjwi", sum := "89e53c51c7e37d4bb80a2d7a4cd5726583b6f32f15366424acebf992c21216ff", checked := Yba.checked }
namespace Rows
def none {H : Type} : Left H := { results := [], args := [] }

/-- 'thicket.LawS3037AOnce': WHATEVER THE INPUT: true; the input reads as it did. -/
def lawS3037AOnceSpec : ChangeSpec := { name := "lawS3037AOnce", fn := fun _ => fun
  | [d1, d2, d3, d4, d5] => { results := [.lit (.bool true)], args := [d1, d2, d3, d4, d5] }
  | _ => none }
def lawS3037AOnceRow : OpenClaim := { program := "ybulkbjwi", sum := "89e53c51c7e37d4bb80a2d7a4cd5726583b6f32f15366424acebf992c21216ff", func := "example.com/thicket/thicket.LawS3037AOnce", spec := "lawS3037AOnce", inPlace := ["math.Float64bits", "sync/atomic.StoreUint32", "sync/atomic.StoreUint64", "sync/atomic.LoadUint64", "math.Float64frombits", "sync/atomic.CompareAndSwapUint64", "sync/atomic.LoadUint32"], apart := false }
def LawS3037AOnceSaid : Prop := lawS3037AOnceRow.holds Yba.pinned (OpenSpec.ofChange lawS3037AOnceSpec)

/-- ITS FALSE NEIGHBOUR: 'it returns false'. Refute it at one input. -/
def lawS3037AOnceWrong : ChangeSpec := { name := "lawS3037AOnce", fn := fun _ => fun
  | [d1, d2, d3, d4, d5] => { results := [.lit (.bool false)], args := [d1, d2, d3, d4, d5] }
  | _ => none }
def LawS3037AOnceWrongFalsely : Prop := lawS3037AOnceRow.holds Yba.pinned (OpenSpec.ofChange lawS3037AOnceWrong)

/-- 'thicket.LawS3037AChain': WHATEVER THE INPUT: true; the input reads as it did. -/
def lawS3037AChainSpec : ChangeSpec := { name := "lawS3037AChain", fn := fun _ => fun
  | [d1, d2, d3] => { results := [.lit (.bool true)], args := [d1, d2, d3] }
  | _ => none }
def lawS3037AChainRow : OpenClaim := { program := "ybulkbjwi", sum := "89e53c51c7e37d4bb80a2d7a4cd5726583b6f32f15366424acebf992c21216ff", func := "example.com/thicket/thicket.LawS3037AChain", spec := "lawS3037AChain", inPlace := ["math.Float64bits", "math.Float64frombits", "sync/atomic.StoreUint64", "sync/atomic.LoadUint64", "sync/atomic.CompareAndSwapUint64"], apart := false }
def LawS3037AChainSaid : Prop := lawS3037AChainRow.holds Yba.pinned (OpenSpec.ofChange lawS3037AChainSpec)

/-- ITS FALSE NEIGHBOUR: 'it returns false'. Refute it at one input. -/
def lawS3037AChainWrong : ChangeSpec := { name := "lawS3037AChain", fn := fun _ => fun
  | [d1, d2, d3] => { results := [.lit (.bool false)], args := [d1, d2, d3] }
  | _ => none }
def LawS3037AChainWrongFalsely : Prop := lawS3037AChainRow.holds Yba.pinned (OpenSpec.ofChange lawS3037AChainWrong)

end Rows
end Go.Proofs.Ybulkbjwi
