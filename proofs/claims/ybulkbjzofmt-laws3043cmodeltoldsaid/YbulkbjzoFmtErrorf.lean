/-
  fmt.Errorf AT THE ONE FORMAT OF THIS ROAD, over this seat's translation: some error that is not nil; its text is whatever the stop answers.
-/
import Derived.Test.YbulkbjzoFmtRows
import Derived.WalkKit
import Derived.WalkSpells
import Derived.WalkLawsBesides
import Derived.Stop.CallBack
import Derived.Stop.FmtLaws
import Derived.Stop.IfaceNil
namespace Go.Proofs.YbulkbjzoFmt
open Go.RowKit Go.Extern.Stop Go.Stop Go.Extern

def fmtB : ByteArray := ⟨#[97, 32, 112, 97, 120, 32, 103, 108, 111, 98, 97, 108, 32, 104, 101, 97, 100, 101, 114, 32, 116, 104, 97, 116, 32, 115, 101, 116, 115, 32, 37, 115, 32, 105, 115, 32, 110, 111, 116, 32, 115, 117, 112, 112, 111, 114, 116, 101, 100]⟩

theorem call16 (args : Array Value) (w : World) : (callFunc 16 args).run Ybaf.prog w = ((FmtStop.errorf #[9, 44] #[31] args).run Ybaf.prog w).andThen fun v w' => .ok (.value v) w' :=
  run_callFunc_extern Ybaf.func16 (by kernel_rfl) (by kernel_rfl) (by kernel_rfl) (by kernel_rfl) args w
theorem guard16 (name : String) (w : World) : (FmtStop.guard name).run Ybaf.prog w = .ok () w := by kernel_rfl
theorem fmt16 (w : World) : (FmtDoors.printed fmtB 1).run Ybaf.prog w = .ok [(0, 115, false)] w := by kernel_rfl
theorem op16 (name : String) (x : ByteArray) (w : World) : (FmtStop.operand name true 115 false (.iface 9 (.string x))).run Ybaf.prog w = .ok ([12, 6, 0, 0, 0, 0, 0, 0, 0, 115, 116, 114, 105, 110, 103], FmtStop.pack x.data.toList) w := by kernel_rfl
theorem ptr16 (w : World) : (FmtStop.ptrTo "errors.errorString").run Ybaf.prog w = .ok 51 w := by kernel_rfl
theorem elem16 (w : World) : (elemOf 51).run Ybaf.prog w = .ok 53 w := by kernel_rfl

theorem errorf_run (b : Nat) (x : ByteArray) (w : World) (hc : w.cell? ⟨b, 0, none⟩ = some (.iface 9 (.string x))) :
    ∃ s : ByteArray, (callFunc 16 #[.string fmtB, .slice (some ⟨b, 0, none⟩) 1 1]).run Ybaf.prog w = .ok (.value (.iface 51 (.pointer (some ⟨w.heap.size, 0, none⟩)))) ((w.alloc (.cells #[.string s] 53)).drew) := by
  refine ⟨?s, ?_⟩
  rotate_left
  rw [call16]
  simp [FmtStop.errorf_lit, go_sem, guard16, FmtStop.cells, fmt16, FmtStop.readAll, op16, ptr16, elem16, FmtStop.text, hc]
  rfl

set_option maxRecDepth 100000 in
set_option maxHeartbeats 1000000 in
theorem errorf_any (b : Nat) (x : ByteArray) (w : World) (hc : w.cell? ⟨b, 0, none⟩ = some (.iface 9 (.string x))) :
    Calls Ybaf.prog 11 #[.string { data := #[97, 32, 112, 97, 120, 32, 103, 108, 111, 98, 97, 108, 32, 104, 101, 97, 100, 101, 114, 32, 116, 104, 97, 116, 32, 115, 101, 116, 115, 32, 37, 115, 32, 105, 115, 32, 110, 111, 116, 32, 115, 117, 112, 112, 111, 114, 116, 101, 100] }, .slice (some ⟨b, 0, none⟩) 1 1] w fun e w' => ∃ s : ByteArray, e = .returned (.iface 51 (.pointer (some ⟨w.heap.size, 0, none⟩))) ∧ w' = (w.alloc (.cells #[.string s] 53)).drew := by
  obtain ⟨s, hs⟩ := errorf_run b x w hc
  simp only [fmtB] at hs
  go_enter Ybaf.func11, Ybaf.ntmps11
  go_wp2
  go_ret
  exact ⟨s, rfl, rfl⟩
end Go.Proofs.YbulkbjzoFmt
