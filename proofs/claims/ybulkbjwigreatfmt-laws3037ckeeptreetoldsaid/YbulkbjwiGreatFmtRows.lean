/-
  No cell of these rows narrows 'for every input' (looked for: loops, veiled, ifaces, maps, wideKeys, modest, calm, conditions, laid).
  DERIVED. THE GIVEN ROWS OF THIS SEAT. 2 by the template 'for every input the law returns true; each argument reads behind the call as it read before'; 0 by the template 'total and deterministic' (their statements: YbulkbjwiGreatFmtTotals.lean).
  GIVEN WITH THE SEED: the statements are not yours to turn. If you find one false, say at which input.
  Laid BY PROGRAM, IN A SANDBOX (cutbox-rows.mjs): the forced cells as the released guide's own fill.sh prints them over the translation 33a4aa9d0b00da02… (all of the seat's roots in one cut). By AI agents, Wed Nov 11 2026. No macro, syntax, notation, axiom, sorry.
-/
import Derived.Test.YbulkbjwiGreatFmtChecked
import GoSem.Claim
import GoSem.ClaimJoined
import GoSem.ClaimMapViews
import Derived.JoinedTies
import Derived.KernelRfl
namespace Go.Proofs.YbulkbjwiGreatFmt
/- THE CELL 'sum', in the pinned program and in every row, IS THE sha256 OF THE DUMP (.gsa) THAT YbulkbjwiGreatFmtProg.lean LOADS. Nothing in Lean hashes anything: it is a label: what it is worth is what the hold of that sum in a sandbox is worth. -/
noncomputable def Ybaz.pinned : Pinned := { name := "ybulkbjwigreatfmt", sum := "33a4aa9d0b00da0200be353bda4cdf653153d7e734ed4b25af7d8f3c72fc0973", checked := Ybaz.checked }
namespace Rows
def none {H : Type} : Left H := { results := [], args := [] }

/-- 'thicket.LawS3037CUnsolved': WHATEVER THE INPUT: true; the input reads as it did. -/
def lawS3037CUnsolvedSpec : ChangeSpec := { name := "lawS3037CUnsolved", fn := fun _ => fun
  | [d1, d2] => { results := [.lit (.bool true)], args := [d1, d2] }
  | _ => none }
def lawS3037CUnsolvedRow : OpenClaim := { program := "ybulkbjwigreatfmt", sum := "33a4aa9d0b00da0200be353bda4cdf653153d7e734ed4b25af7d8f3c72fc0973", func := "example.com/thicket/thicket.LawS3037CUnsolved", spec := "lawS3037CUnsolved", stops := ["fmt.Sprintf"], inPlace := ["sync/atomic.StoreInt64", "math.Float64frombits", "sync/atomic.LoadInt64", "sync/atomic.LoadPointer", "sync/atomic.LoadUint32", "sync/atomic.LoadUint64", "sync/atomic.CompareAndSwapUint64", "sync/atomic.CompareAndSwapUint32", "sync/atomic.AddUint32", "fmt.Sprintf", "sync/atomic.CompareAndSwapPointer", "math.Float64bits", "sync/atomic.StoreUint64", "sync/atomic.StoreUint32"], unfollowed := true, recurses := true, apart := false }
/-- NO THEOREM (fmt's text is open here; it may be false): for the released tool's asking of the row's closed facts alone. THE STATEMENT IS 'LawS3037CUnsolvedToldSaid' (YbulkbjwiGreatFmtCards.lean). -/
def LawS3037CUnsolvedFormAsk : Prop := lawS3037CUnsolvedRow.holds Ybaz.pinned (OpenSpec.ofChange lawS3037CUnsolvedSpec)

/-- ITS FALSE NEIGHBOUR: 'it returns false'. Refute it at one input. -/
def lawS3037CUnsolvedWrong : ChangeSpec := { name := "lawS3037CUnsolved", fn := fun _ => fun
  | [d1, d2] => { results := [.lit (.bool false)], args := [d1, d2] }
  | _ => none }
def LawS3037CUnsolvedWrongFormAsk : Prop := lawS3037CUnsolvedRow.holds Ybaz.pinned (OpenSpec.ofChange lawS3037CUnsolvedWrong)

/-- 'thicket.LawS3037CKeepTree': WHATEVER THE INPUT: true; the input reads as it did. -/
def lawS3037CKeepTreeSpec : ChangeSpec := { name := "lawS3037CKeepTree", fn := fun _ => fun
  | [d1, d2] => { results := [.lit (.bool true)], args := [d1, d2] }
  | _ => none }
def lawS3037CKeepTreeRow : OpenClaim := { program := "ybulkbjwigreatfmt", sum := "33a4aa9d0b00da0200be353bda4cdf653153d7e734ed4b25af7d8f3c72fc0973", func := "example.com/thicket/thicket.LawS3037CKeepTree", spec := "lawS3037CKeepTree", stops := ["fmt.Sprintf"], inPlace := ["sync/atomic.StoreInt64", "math.Float64frombits", "sync/atomic.LoadInt64", "sync/atomic.LoadPointer", "sync/atomic.LoadUint32", "sync/atomic.LoadUint64", "sync/atomic.CompareAndSwapUint64", "sync/atomic.CompareAndSwapUint32", "sync/atomic.AddUint32", "fmt.Sprintf", "sync/atomic.CompareAndSwapPointer", "math.Float64bits", "sync/atomic.StoreUint64", "sync/atomic.StoreUint32"], unfollowed := true, recurses := true, apart := false }
/-- NO THEOREM (fmt's text is open here; it may be false): for the released tool's asking of the row's closed facts alone. THE STATEMENT IS 'LawS3037CKeepTreeToldSaid' (YbulkbjwiGreatFmtCards.lean). -/
def LawS3037CKeepTreeFormAsk : Prop := lawS3037CKeepTreeRow.holds Ybaz.pinned (OpenSpec.ofChange lawS3037CKeepTreeSpec)

/-- ITS FALSE NEIGHBOUR: 'it returns false'. Refute it at one input. -/
def lawS3037CKeepTreeWrong : ChangeSpec := { name := "lawS3037CKeepTree", fn := fun _ => fun
  | [d1, d2] => { results := [.lit (.bool false)], args := [d1, d2] }
  | _ => none }
def LawS3037CKeepTreeWrongFormAsk : Prop := lawS3037CKeepTreeRow.holds Ybaz.pinned (OpenSpec.ofChange lawS3037CKeepTreeWrong)

end Rows
end Go.Proofs.YbulkbjwiGreatFmt
