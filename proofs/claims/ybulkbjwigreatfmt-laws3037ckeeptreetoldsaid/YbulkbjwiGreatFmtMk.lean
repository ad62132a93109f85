/-
  THE WALKS OF zzs3037cmk AND WHAT IT CALLS, over this seat's translation.
-/
import Derived.Test.YbulkbjwiGreatFmtRows
import Derived.WalkKit
import Derived.WalkSpells
import Derived.WalkLawsBesides
import Derived.Laws.LoneSync
import Derived.Laws.Pointers
namespace Go.Proofs.YbulkbjwiGreatFmt
open Go.RowKit

theorem store64 (a : Addr) (y : Int) (u : Value) (w : World) (hc : w.cell? a = some u) (hz : w.frozen? a = false) : (callFunc 19 #[.pointer (some a), .int .i64 y]).run Ybaz.prog w = .ok (.value (.tuple #[])) (w.setCell a (.int .i64 y)) :=
  run_call_store (P := Ybaz.prog) Ybaz.func19 (by kernel_rfl) (by kernel_rfl) (by kernel_rfl) (by kernel_rfl) hc hz
theorem load64 (a : Addr) (x : Int) (w : World) (hc : w.cell? a = some (.int .i64 x)) : (callFunc 18 #[.pointer (some a)]).run Ybaz.prog w = .ok (.value (.int .i64 x)) w :=
  run_call_load (P := Ybaz.prog) Ybaz.func18 (by kernel_rfl) (by kernel_rfl) (by kernel_rfl) .i64 (by kernel_rfl) hc

theorem storeM (L off : Nat) (u : Value) (y : Int) (w : World) (hc : w.cell? ⟨L, off, none⟩ = some u) (hz : w.frozen? ⟨L, off, none⟩ = false) :
    Calls Ybaz.prog 9 #[.pointer (some ⟨L, off, none⟩), .int .i64 y] w fun e w' => e = .returned (.tuple #[]) ∧ w' = w.setCell ⟨L, off, none⟩ (.int .i64 y) := by
  have k1 := store64 ⟨L, off, none⟩ y u w hc hz
  go_enter Ybaz.func9, Ybaz.ntmps9
  go_wp2
  go_end0
  exact ⟨rfl, rfl⟩
theorem loadM (L off : Nat) (x : Int) (w : World) (hc : w.cell? ⟨L, off, none⟩ = some (.int .i64 x)) :
    Calls Ybaz.prog 8 #[.pointer (some ⟨L, off, none⟩)] w fun e w' => e = .returned (.int .i64 x) ∧ w' = w := by
  have k1 := load64 ⟨L, off, none⟩ x w hc
  go_enter Ybaz.func8, Ybaz.ntmps8
  go_wp2
  go_ret
  exact ⟨rfl, rfl⟩

theorem z83 : Ybaz.zeroCells83[4104]? = some (.int .i64 0) := by kernel_rfl
theorem z83s : Ybaz.zeroCells83[4098]? = some (.int .u32 0) := by kernel_rfl
theorem n83 : Ybaz.zeroCells83.size = 4173 := by kernel_rfl
theorem z122 : Ybaz.zeroCells122[1]? = some (.int .u32 0) := by kernel_rfl

/-- What a tree made by zzs3037cmk holds: the run lies at R, the index at R + 1, the tree at R + 2. -/
structure Made (R : Nat) (size samples : Int) (keep : Bool) (w : World) : Prop where
  run : w.cell? ⟨R + 2, 0, none⟩ = some (.pointer (some ⟨R, 0, none⟩))
  index : w.cell? ⟨R + 2, 1, none⟩ = some (.pointer (some ⟨R + 1, 0, none⟩))
  slots : w.cell? ⟨R + 2, 4098, none⟩ = some (.int .u32 0)
  size : w.cell? ⟨R + 2, 4104, none⟩ = some (.int .i64 size)
  samples : w.cell? ⟨R, 18, none⟩ = some (.int .i64 samples)
  keep : w.cell? ⟨R, 10, none⟩ = some (.bool keep)
  space : w.cell? ⟨R, 12, none⟩ = some (.slice none 0 0)
  root : w.cell? ⟨R + 1, 1, none⟩ = some (.int .u32 0)

set_option maxHeartbeats 1000000 in
theorem mk_any (size samples : Int) (keep : Bool) (w : World) :
    Calls Ybaz.prog 5 #[.int .i64 size, .int .i64 samples, .bool keep] w fun e w' => e = .returned (.pointer (some ⟨w.heap.size + 2, 0, none⟩)) ∧ Below w.heap.size w w' ∧ w'.heap.size = w.heap.size + 3 ∧ Made w.heap.size size samples keep w' := by
  have h1 := z83
  have h2 := z83s
  have h4 := z122
  go_enter Ybaz.func5, Ybaz.ntmps5
  go_wp2_with fail
  refine (storeM _ _ (.int .i64 0) _ _ ?_ ?_).mono ?_
  · simp [go_sem]
    exact (Array.getElem?_eq_some_iff.1 h1).2
  · simp [go_sem]
  rintro e w' ⟨rfl, rfl⟩
  go_wp2_with fail
  refine (storeM _ _ (.int .i64 0) _ _ ?_ ?_).mono ?_
  · simp [go_sem]
  · simp [go_sem]
  rintro e w' ⟨rfl, rfl⟩
  go_wp2
  go_ret
  refine ⟨rfl, by repeat (first | exact Below.refl _ _ | refine Below.drew ?_ | refine Below.alloc ?_ (by first | (simp; done) | (simp; omega)) _), by simp, ?_⟩
  constructor <;> simp [go_sem]
  · exact (Array.getElem?_eq_some_iff.1 h2).2
  · exact (Array.getElem?_eq_some_iff.1 h4).2

end Go.Proofs.YbulkbjwiGreatFmt
