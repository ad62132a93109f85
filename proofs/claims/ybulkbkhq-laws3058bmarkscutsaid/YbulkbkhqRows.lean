/-
  No cell of these rows narrows 'for every input' (looked for: loops, veiled, ifaces, maps, wideKeys, modest, calm, conditions, laid).
  DERIVED. THE GIVEN ROWS OF THIS SEAT. 3 by the template 'for every input the law returns true; each argument reads behind the call as it read before'; 0 by the template 'total and deterministic' (their statements: YbulkbkhqTotals.lean).
  GIVEN WITH THE SEED: the statements are not yours to turn. If you find one false, say at which input.
  Laid BY PROGRAM, IN A SANDBOX (cutbox-rows.mjs): the forced cells as the released guide's own fill.sh prints them over the translation fdc30a401e0becb5… (all of the seat's roots in one cut). By AI agents, Wed Nov 11 2026. No macro, syntax, notation, axiom, sorry.
-/
import Derived.Test.YbulkbkhqChecked
import GoSem.Claim
import GoSem.ClaimJoined
import GoSem.ClaimMapViews
import Derived.JoinedTies
import Derived.KernelRfl
namespace Go.Proofs.Ybulkbkhq
/- THE CELL 'sum', in the pinned program and in every row, IS THE sha256 OF THE DUMP (.gsa) THAT YbulkbkhqProg.lean LOADS. Nothing in Lean hashes anything: it is a label: what it is worth is what the hold of that sum in a sandbox is worth. -/
noncomputable def Yba.pinned : Pinned := { name := "ybulkbkhq", sum := "fdc30a401e0becb5950de69aec992b23b5d92052d9f58a75d5eb7d8705503af1", checked := Yba.checked }
namespace Rows
def none {H : Type} : Left H := { results := [], args := [] }

/-- 'millrace.LawS3058BMarksCut': WHATEVER THE INPUT: true; the input reads as it did. -/
def lawS3058BMarksCutSpec : ChangeSpec := { name := "lawS3058BMarksCut", fn := fun _ => fun
  | [d1, d2, d3, d4, d5] => { results := [.lit (.bool true)], args := [d1, d2, d3, d4, d5] }
  | _ => none }
def lawS3058BMarksCutRow : OpenClaim := { program := "ybulkbkhq", sum := "fdc30a401e0becb5950de69aec992b23b5d92052d9f58a75d5eb7d8705503af1", func := "example.com/millrace/millrace.LawS3058BMarksCut", spec := "lawS3058BMarksCut", inPlace := ["(*internal/sync.Mutex).Lock", "internal/race.Disable", "sync/atomic.CompareAndSwapInt32", "internal/race.Enable", "internal/race.Acquire", "(*internal/sync.Mutex).lockSlow", "internal/sync.runtime_canSpin", "internal/sync.runtime_doSpin", "internal/sync.throw", "internal/sync.runtime_nanotime", "internal/sync.runtime_SemacquireMutex", "sync/atomic.AddInt32", "(*internal/sync.Mutex).Unlock", "internal/race.ReleaseMerge", "(*internal/sync.Mutex).unlockSlow", "internal/sync.fatal", "internal/sync.runtime_Semrelease", "(*internal/sync.Mutex).TryLock"], apart := false }
def LawS3058BMarksCutSaid : Prop := lawS3058BMarksCutRow.holds Yba.pinned (OpenSpec.ofChange lawS3058BMarksCutSpec)

/-- ITS FALSE NEIGHBOUR: 'it returns false'. Refute it at one input. -/
def lawS3058BMarksCutWrong : ChangeSpec := { name := "lawS3058BMarksCut", fn := fun _ => fun
  | [d1, d2, d3, d4, d5] => { results := [.lit (.bool false)], args := [d1, d2, d3, d4, d5] }
  | _ => none }
def LawS3058BMarksCutWrongFalsely : Prop := lawS3058BMarksCutRow.holds Yba.pinned (OpenSpec.ofChange lawS3058BMarksCutWrong)

/-- 'millrace.LawS3058CFirst': WHATEVER THE INPUT: true; the input reads as it did. -/
def lawS3058CFirstSpec : ChangeSpec := { name := "lawS3058CFirst", fn := fun _ => fun
  | [d] => { results := [.lit (.bool true)], args := [d] }
  | _ => none }
def lawS3058CFirstRow : OpenClaim := { program := "ybulkbkhq", sum := "fdc30a401e0becb5950de69aec992b23b5d92052d9f58a75d5eb7d8705503af1", func := "example.com/millrace/millrace.LawS3058CFirst", spec := "lawS3058CFirst", inPlace := ["(*internal/sync.Mutex).Lock", "internal/race.Disable", "sync/atomic.CompareAndSwapInt32", "internal/race.Enable", "internal/race.Acquire", "(*internal/sync.Mutex).lockSlow", "internal/sync.runtime_canSpin", "internal/sync.runtime_doSpin", "internal/sync.throw", "internal/sync.runtime_nanotime", "internal/sync.runtime_SemacquireMutex", "sync/atomic.AddInt32", "(*internal/sync.Mutex).Unlock", "internal/race.ReleaseMerge", "(*internal/sync.Mutex).unlockSlow", "internal/sync.fatal", "internal/sync.runtime_Semrelease"], apart := false }
def LawS3058CFirstSaid : Prop := lawS3058CFirstRow.holds Yba.pinned (OpenSpec.ofChange lawS3058CFirstSpec)

/-- ITS FALSE NEIGHBOUR: 'it returns false'. Refute it at one input. -/
def lawS3058CFirstWrong : ChangeSpec := { name := "lawS3058CFirst", fn := fun _ => fun
  | [d] => { results := [.lit (.bool false)], args := [d] }
  | _ => none }
def LawS3058CFirstWrongFalsely : Prop := lawS3058CFirstRow.holds Yba.pinned (OpenSpec.ofChange lawS3058CFirstWrong)

/-- 'millrace.LawS3058CStored': WHATEVER THE INPUT: true; the input reads as it did. -/
def lawS3058CStoredSpec : ChangeSpec := { name := "lawS3058CStored", fn := fun _ => fun
  | [d1, d2] => { results := [.lit (.bool true)], args := [d1, d2] }
  | _ => none }
def lawS3058CStoredRow : OpenClaim := { program := "ybulkbkhq", sum := "fdc30a401e0becb5950de69aec992b23b5d92052d9f58a75d5eb7d8705503af1", func := "example.com/millrace/millrace.LawS3058CStored", spec := "lawS3058CStored", inPlace := ["(*internal/sync.Mutex).Lock", "internal/race.Disable", "sync/atomic.CompareAndSwapInt32", "internal/race.Enable", "internal/race.Acquire", "(*internal/sync.Mutex).lockSlow", "internal/sync.runtime_canSpin", "internal/sync.runtime_doSpin", "internal/sync.throw", "internal/sync.runtime_nanotime", "internal/sync.runtime_SemacquireMutex", "sync/atomic.AddInt32", "(*internal/sync.Mutex).Unlock", "internal/race.ReleaseMerge", "(*internal/sync.Mutex).unlockSlow", "internal/sync.fatal", "internal/sync.runtime_Semrelease"], apart := false }
def LawS3058CStoredSaid : Prop := lawS3058CStoredRow.holds Yba.pinned (OpenSpec.ofChange lawS3058CStoredSpec)

/-- ITS FALSE NEIGHBOUR: 'it returns false'. Refute it at one input. -/
def lawS3058CStoredWrong : ChangeSpec := { name := "lawS3058CStored", fn := fun _ => fun
  | [d1, d2] => { results := [.lit (.bool false)], args := [d1, d2] }
  | _ => none }
def LawS3058CStoredWrongFalsely : Prop := lawS3058CStoredRow.holds Yba.pinned (OpenSpec.ofChange lawS3058CStoredWrong)

end Rows
end Go.Proofs.Ybulkbkhq
