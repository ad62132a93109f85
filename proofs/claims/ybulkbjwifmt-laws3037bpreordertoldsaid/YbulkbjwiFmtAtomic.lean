/-
  SEAT b3037aF: THE ATOMIC CELLS (uint32 and pointer) AND THE TWO ARENAS' makeSlot.
-/
import Derived.Test.YbulkbjwiFmtRows
import Derived.WalkKit
import Derived.WalkSpells
import Derived.WalkLawsBesides
import Derived.Laws.LoneSync
import Derived.Laws.Pointers
import Derived.Lib.Builder
namespace Go.Proofs.YbulkbjwiFmt
open Go.RowKit

/-! ### pointers: what LoneSync has for numbers -/
section
variable {P : Program} {f : FuncId} {fn : Func}
theorem run_call_load_ptr (hf : P.funcs[f]? = some fn) (hname : (fn.name == "runtime.NumGoroutine") = false) (hb : fn.body.isNone = true) (hn : Extern.findNext fn = none)
    (he : Extern.find fn = some (Extern.Atomic.loadT .ptr)) {a : Addr} {x : Option Addr} {w : World} (hc : w.cell? a = some (.pointer x)) :
    (callFunc f #[.pointer (some a)]).run P w = .ok (.value (.pointer x)) w := by
  rw [run_callFunc_extern hf hname hb hn he]
  change (Sem.run P (do Extern.Atomic.read .ptr (← asAddr (.pointer (some a)))) w).andThen _ = _
  simp [Extern.Atomic.read, asAddr, hc, Result.andThen]

theorem run_call_cas_ptr_nil (hf : P.funcs[f]? = some fn) (hname : (fn.name == "runtime.NumGoroutine") = false) (hb : fn.body.isNone = true) (hn : Extern.findNext fn = none)
    (he : Extern.find fn = some (Extern.Atomic.casT .ptr)) {a : Addr} {y : Option Addr} {w : World} (hc : w.cell? a = some (.pointer none)) (hz : w.frozen? a = false) :
    (callFunc f #[.pointer (some a), .pointer none, .pointer y]).run P w = .ok (.value (.bool true)) (w.setCell a (.pointer y)) := by
  rw [run_callFunc_extern hf hname hb hn he]
  change (Sem.run P (do
    let a' ← asAddr (.pointer (some a))
    if ← Extern.Atomic.touchesFrozen a' then unsupported (.unsafePointer "a write to bytes that a string shares")
    let eq ← match Extern.Atomic.T.ptr, ← Extern.Atomic.read .ptr a', Value.pointer none with
      | _, .int _ x, .int _ y => pure (x == y)
      | .ptr, .pointer x, .pointer y => samePointer x y
      | .int _, .pointer (some _), .int _ 0 | .int _, .int _ 0, .pointer (some _) => pure false
      | .int _, .pointer (some _), _ | .int _, _, .pointer (some _) => unsupported .addressObserved
      | _, _, _ => stuck "atomic.CompareAndSwap: old is no T"
    if eq then store a' (.pointer y) .atomic
    pure (Value.bool eq)) w).andThen _ = _
  simp [Extern.Atomic.touchesFrozen, Extern.Atomic.read, asAddr, viewAt, World.shape?_isSome_of_cell? hc, hc, hz, samePointer, run_store P w a (.pointer y) .atomic rfl, Result.andThen]

theorem run_convert_nil_from {src dst u : TypeId} {w : World} (hs : P.underlying src = some .unsafePointer) (hd : P.underlying dst = some (.pointer u)) : (convert src dst (.pointer none)).run P w = .ok (.pointer none) w := by
  simp [convert, Conv.unsafePointer, run_underlying hs, run_underlying hd]
theorem run_convert_nil_to {src dst u : TypeId} {w : World} (hs : P.underlying src = some (.pointer u)) (hd : P.underlying dst = some .unsafePointer) : (convert src dst (.pointer none)).run P w = .ok (.pointer none) w := by
  simp [convert, Conv.unsafePointer, run_underlying hs, run_underlying hd]
end

/-! ### uint32 -/
theorem load32 (a : Addr) (x : Int) (w : World) (hc : w.cell? a = some (.int .u32 x)) : (callFunc 19 #[.pointer (some a)]).run Ybaf.prog w = .ok (.value (.int .u32 x)) w :=
  run_call_load (P := Ybaf.prog) Ybaf.func19 (by kernel_rfl) (by kernel_rfl) (by kernel_rfl) .u32 (by kernel_rfl) hc
theorem cas32 (a : Addr) (x y : Int) (w : World) (hc : w.cell? a = some (.int .u32 x)) (hz : w.frozen? a = false) : (callFunc 45 #[.pointer (some a), .int .u32 x, .int .u32 y]).run Ybaf.prog w = .ok (.value (.bool true)) (w.setCell a (.int .u32 y)) :=
  run_call_cas_hit (P := Ybaf.prog) Ybaf.func45 (by kernel_rfl) (by kernel_rfl) (by kernel_rfl) .u32 (by kernel_rfl) hc hz
theorem loadP (a : Addr) (x : Option Addr) (w : World) (hc : w.cell? a = some (.pointer x)) : (callFunc 34 #[.pointer (some a)]).run Ybaf.prog w = .ok (.value (.pointer x)) w :=
  run_call_load_ptr (P := Ybaf.prog) Ybaf.func34 (by kernel_rfl) (by kernel_rfl) (by kernel_rfl) (by kernel_rfl) hc
theorem casP (a : Addr) (y : Option Addr) (w : World) (hc : w.cell? a = some (.pointer none)) (hz : w.frozen? a = false) : (callFunc 57 #[.pointer (some a), .pointer none, .pointer y]).run Ybaf.prog w = .ok (.value (.bool true)) (w.setCell a (.pointer y)) :=
  run_call_cas_ptr_nil (P := Ybaf.prog) Ybaf.func57 (by kernel_rfl) (by kernel_rfl) (by kernel_rfl) (by kernel_rfl) hc hz

/-- (*atomic.Uint32).Load. -/
theorem loadM (L off : Nat) (x : Int) (w : World) (hc : w.cell? ⟨L, off, none⟩ = some (.int .u32 x)) :
    Calls Ybaf.prog 8 #[.pointer (some ⟨L, off, none⟩)] w fun e w' => e = .returned (.int .u32 x) ∧ w' = w := by
  have k1 := load32 ⟨L, off, none⟩ x w hc
  go_enter Ybaf.func8, Ybaf.ntmps8
  go_wp2
  go_ret
  exact ⟨rfl, rfl⟩
/-- (*atomic.Uint32).CompareAndSwap, where it hits. -/
theorem casM (L off : Nat) (x y : Int) (w : World) (hc : w.cell? ⟨L, off, none⟩ = some (.int .u32 x)) (hz : w.frozen? ⟨L, off, none⟩ = false) :
    Calls Ybaf.prog 31 #[.pointer (some ⟨L, off, none⟩), .int .u32 x, .int .u32 y] w fun e w' => e = .returned (.bool true) ∧ w' = w.setCell ⟨L, off, none⟩ (.int .u32 y) := by
  have k1 := cas32 ⟨L, off, none⟩ x y w hc hz
  go_enter Ybaf.func31, Ybaf.ntmps31
  go_wp2
  go_ret
  exact ⟨rfl, rfl⟩

theorem shape_setCell (w : World) (a : Addr) (v : Value) (b : Nat) : (w.setCell a v).shape? b = w.shape? b := by
  simp only [World.setCell, World.shape?, Array.getElem?_modify]
  by_cases h : a.block = b
  · rw [if_pos h]
    cases w.heap[b]? with
    | none => rfl
    | some o => cases o <;> simp; split <;> simp
  · rw [if_neg h]
theorem heapNew (w : World) (o : Obj) : (w.alloc o).heap[w.heap.size]? = some o := by
  simp [World.alloc, -World.alloc_eq]
theorem u39 : Ybaf.prog.underlying 39 = some .unsafePointer := by kernel_rfl

/-! ### Page -/
theorem uPage : Ybaf.prog.underlying 37 = some (.pointer 88) := by kernel_rfl
theorem liesPage : liesAt Ybaf.prog Ybaf.prog.depth 88 (1024 / Ybaf.prog.cellsOf 88) 0 88 1 = true := by kernel_rfl
theorem loadPage_some (L off b : Nat) (w : World) (hc : w.cell? ⟨L, off, none⟩ = some (.pointer (some ⟨b, 0, none⟩))) (hs : w.shape? b = some (88, 1024)) :
    Calls Ybaf.prog 20 #[.pointer (some ⟨L, off, none⟩)] w fun e w' => e = .returned (.pointer (some ⟨b, 0, none⟩)) ∧ w' = w := by
  have k1 := loadP ⟨L, off, none⟩ _ w hc
  have k2 : (convert 39 37 (.pointer (some ⟨b, 0, none⟩))).run Ybaf.prog w = .ok (.pointer (some ⟨b, 0, none⟩)) w := by
    obtain ⟨j, hj⟩ : ∃ j, Ybaf.prog.info? 88 = some j := Option.isSome_iff_exists.1 (by kernel_rfl)
    exact Go.Lib.run_from_unsafe (P := Ybaf.prog) w ⟨b, 0, none⟩ u39 uPage hj hs liesPage
  go_enter Ybaf.func20, Ybaf.ntmps20
  go_wp2
  go_ret
  exact ⟨rfl, rfl⟩
theorem loadPage_none (L off : Nat) (w : World) (hc : w.cell? ⟨L, off, none⟩ = some (.pointer none)) :
    Calls Ybaf.prog 20 #[.pointer (some ⟨L, off, none⟩)] w fun e w' => e = .returned (.pointer none) ∧ w' = w := by
  have k1 := loadP ⟨L, off, none⟩ _ w hc
  have k2 : (convert 39 37 (.pointer none)).run Ybaf.prog w = .ok (.pointer none) w := run_convert_nil_from (P := Ybaf.prog) u39 uPage
  go_enter Ybaf.func20, Ybaf.ntmps20
  go_wp2
  go_ret
  exact ⟨rfl, rfl⟩
theorem casPage (L off b : Nat) (v : Value) (w : World) (hc : w.cell? ⟨L, off, none⟩ = some (.pointer none)) (hz : w.frozen? ⟨L, off, none⟩ = false) (hv : w.cell? ⟨b, 0, none⟩ = some v) :
    Calls Ybaf.prog 50 #[.pointer (some ⟨L, off, none⟩), .pointer none, .pointer (some ⟨b, 0, none⟩)] w fun e w' => e = .returned (.bool true) ∧ w' = w.setCell ⟨L, off, none⟩ (.pointer (some ⟨b, 0, none⟩)) := by
  have k1 := casP ⟨L, off, none⟩ (some ⟨b, 0, none⟩) w hc hz
  have k2 : (convert 37 39 (.pointer (some ⟨b, 0, none⟩))).run Ybaf.prog w = .ok (.pointer (some ⟨b, 0, none⟩)) w := run_convert_to_unsafe (P := Ybaf.prog) uPage u39 (by kernel_rfl) hv
  have k3 : (convert 37 39 (.pointer none)).run Ybaf.prog w = .ok (.pointer none) w := run_convert_nil_to (P := Ybaf.prog) uPage u39
  go_enter Ybaf.func50, Ybaf.ntmps50
  go_wp2
  go_ret
  exact ⟨rfl, rfl⟩
noncomputable def zc88 : Array Value := Array.replicate 1024 (.pointer none)
theorem zv88 (w : World) : (zeroValue 88).run Ybaf.prog w = .ok (.agg zc88) w := by kernel_rfl
attribute [local go_sem] zv88
theorem sizePage : zc88.size = 1024 := by kernel_rfl
theorem zeroPage (w : World) : (w.alloc (.cells zc88 88)).shape? w.heap.size = some (88, 1024) := by
  have h : (w.alloc (.cells zc88 88)).heap[w.heap.size]? = some (.cells zc88 88) := heapNew _ _
  unfold World.shape?; rw [h]; simp [sizePage]
theorem npPage (a : Addr) (w : World) : (binOp .neq 37 (.pointer (some a)) (.pointer none)).run Ybaf.prog w = .ok (.bool true) w := run_neq_pointer_nil (P := Ybaf.prog) w 37 _ (by kernel_rfl)
theorem nnPage (w : World) : (binOp .neq 37 (.pointer none) (.pointer none)).run Ybaf.prog w = .ok (.bool false) w := run_neq_pointer_nil (P := Ybaf.prog) w 37 _ (by kernel_rfl)
set_option maxRecDepth 100000 in
theorem makePage_some (L off b : Nat) (w : World) (hc : w.cell? ⟨L, off, none⟩ = some (.pointer (some ⟨b, 0, none⟩))) (hs : w.shape? b = some (88, 1024)) :
    Calls Ybaf.prog 40 #[.pointer (some ⟨L, off, none⟩)] w fun e w' => e = .returned (.pointer (some ⟨b, 0, none⟩)) ∧ w' = w := by
  have np := npPage
  have nn := nnPage
  go_enter Ybaf.func40, Ybaf.ntmps40
  go_wp2_with (go_at_call 20; refine (loadPage_some L off b w hc hs).mono ?_; rintro e w' ⟨rfl, rfl⟩)
  go_ret
  exact ⟨rfl, rfl⟩
set_option maxRecDepth 100000 in
theorem makePage_none (L off : Nat) (w : World) (hc : w.cell? ⟨L, off, none⟩ = some (.pointer none)) (hz : w.frozen? ⟨L, off, none⟩ = false) :
    Calls Ybaf.prog 40 #[.pointer (some ⟨L, off, none⟩)] w fun e w' => e = .returned (.pointer (some ⟨w.heap.size, 0, none⟩)) ∧ w' = (w.alloc (.cells zc88 88)).setCell ⟨L, off, none⟩ (.pointer (some ⟨w.heap.size, 0, none⟩)) := by
  have np := npPage
  have nn := nnPage
  have hL : L < w.heap.size := World.block_lt_of_cell? _ _ hc
  have hc1 : (w.alloc (.cells zc88 88)).cell? ⟨L, off, none⟩ = some (.pointer none) := (World.cell?_of_block (a := ⟨L, off, none⟩) (Below.heap_alloc w _ L hL)).trans hc
  have hz1 : (w.alloc (.cells zc88 88)).frozen? ⟨L, off, none⟩ = false := (World.frozen?_of_block (a := ⟨L, off, none⟩) (Below.heap_alloc w _ L hL)).trans hz
  have hv : (w.alloc (.cells zc88 88)).cell? ⟨w.heap.size, 0, none⟩ = some (zc88[0]'(by rw [sizePage]; decide)) := by
    have h : (w.alloc (.cells zc88 88)).heap[w.heap.size]? = some (.cells zc88 88) := heapNew _ _
    unfold World.cell?; simp only [h]; simp [sizePage]
  go_enter Ybaf.func40, Ybaf.ntmps40
  go_wp2_with fail
  refine (loadPage_none L off w hc).mono ?_
  rintro e w' ⟨rfl, rfl⟩
  go_wp2_with fail
  refine (casPage L off _ _ _ hc1 hz1 hv).mono ?_
  rintro e w2 ⟨rfl, hw2⟩
  have hc2 : w2.cell? ⟨L, off, none⟩ = some (.pointer (some ⟨w'.heap.size, 0, none⟩)) := by rw [hw2]; exact World.cell?_setCell_same _ _ _ hc1
  have hs2 : w2.shape? w'.heap.size = some (88, 1024) := by rw [hw2]; exact (shape_setCell _ _ _ _).trans (zeroPage w')
  replace hw2 : Hid _ := hw2
  go_wp2_with fail
  refine (loadPage_some L off w'.heap.size _ hc2 hs2).mono ?_
  rintro e w3 ⟨rfl, rfl⟩
  go_wp2
  go_ret
  exact ⟨rfl, hw2.out⟩

/-! ### Chunk -/
theorem uChunk : Ybaf.prog.underlying 81 = some (.pointer 91) := by kernel_rfl
theorem liesChunk : liesAt Ybaf.prog Ybaf.prog.depth 91 (8192 / Ybaf.prog.cellsOf 91) 0 91 1 = true := by kernel_rfl
theorem loadChunk_some (L off b : Nat) (w : World) (hc : w.cell? ⟨L, off, none⟩ = some (.pointer (some ⟨b, 0, none⟩))) (hs : w.shape? b = some (91, 8192)) :
    Calls Ybaf.prog 21 #[.pointer (some ⟨L, off, none⟩)] w fun e w' => e = .returned (.pointer (some ⟨b, 0, none⟩)) ∧ w' = w := by
  have k1 := loadP ⟨L, off, none⟩ _ w hc
  have k2 : (convert 39 81 (.pointer (some ⟨b, 0, none⟩))).run Ybaf.prog w = .ok (.pointer (some ⟨b, 0, none⟩)) w := by
    obtain ⟨j, hj⟩ : ∃ j, Ybaf.prog.info? 91 = some j := Option.isSome_iff_exists.1 (by kernel_rfl)
    exact Go.Lib.run_from_unsafe (P := Ybaf.prog) w ⟨b, 0, none⟩ u39 uChunk hj hs liesChunk
  go_enter Ybaf.func21, Ybaf.ntmps21
  go_wp2
  go_ret
  exact ⟨rfl, rfl⟩
theorem loadChunk_none (L off : Nat) (w : World) (hc : w.cell? ⟨L, off, none⟩ = some (.pointer none)) :
    Calls Ybaf.prog 21 #[.pointer (some ⟨L, off, none⟩)] w fun e w' => e = .returned (.pointer none) ∧ w' = w := by
  have k1 := loadP ⟨L, off, none⟩ _ w hc
  have k2 : (convert 39 81 (.pointer none)).run Ybaf.prog w = .ok (.pointer none) w := run_convert_nil_from (P := Ybaf.prog) u39 uChunk
  go_enter Ybaf.func21, Ybaf.ntmps21
  go_wp2
  go_ret
  exact ⟨rfl, rfl⟩
theorem casChunk (L off b : Nat) (v : Value) (w : World) (hc : w.cell? ⟨L, off, none⟩ = some (.pointer none)) (hz : w.frozen? ⟨L, off, none⟩ = false) (hv : w.cell? ⟨b, 0, none⟩ = some v) :
    Calls Ybaf.prog 51 #[.pointer (some ⟨L, off, none⟩), .pointer none, .pointer (some ⟨b, 0, none⟩)] w fun e w' => e = .returned (.bool true) ∧ w' = w.setCell ⟨L, off, none⟩ (.pointer (some ⟨b, 0, none⟩)) := by
  have k1 := casP ⟨L, off, none⟩ (some ⟨b, 0, none⟩) w hc hz
  have k2 : (convert 81 39 (.pointer (some ⟨b, 0, none⟩))).run Ybaf.prog w = .ok (.pointer (some ⟨b, 0, none⟩)) w := run_convert_to_unsafe (P := Ybaf.prog) uChunk u39 (by kernel_rfl) hv
  have k3 : (convert 81 39 (.pointer none)).run Ybaf.prog w = .ok (.pointer none) w := run_convert_nil_to (P := Ybaf.prog) uChunk u39
  go_enter Ybaf.func51, Ybaf.ntmps51
  go_wp2
  go_ret
  exact ⟨rfl, rfl⟩
noncomputable def zc91 : Array Value := match Ybaf.prog.info? 91 with | some i => (match i.zero with | some (.agg c) => c | _ => #[]) | none => #[]
theorem zv91 (w : World) : (zeroValue 91).run Ybaf.prog w = .ok (.agg zc91) w := by kernel_rfl
attribute [local go_sem] zv91
theorem sizeChunk : zc91.size = 8192 := by kernel_rfl
theorem zeroChunk (w : World) : (w.alloc (.cells zc91 91)).shape? w.heap.size = some (91, 8192) := by
  have h : (w.alloc (.cells zc91 91)).heap[w.heap.size]? = some (.cells zc91 91) := heapNew _ _
  unfold World.shape?; rw [h]; simp [sizeChunk]
theorem npChunk (a : Addr) (w : World) : (binOp .neq 81 (.pointer (some a)) (.pointer none)).run Ybaf.prog w = .ok (.bool true) w := run_neq_pointer_nil (P := Ybaf.prog) w 81 _ (by kernel_rfl)
theorem nnChunk (w : World) : (binOp .neq 81 (.pointer none) (.pointer none)).run Ybaf.prog w = .ok (.bool false) w := run_neq_pointer_nil (P := Ybaf.prog) w 81 _ (by kernel_rfl)
set_option maxRecDepth 100000 in
theorem makeChunk_some (L off b : Nat) (w : World) (hc : w.cell? ⟨L, off, none⟩ = some (.pointer (some ⟨b, 0, none⟩))) (hs : w.shape? b = some (91, 8192)) :
    Calls Ybaf.prog 41 #[.pointer (some ⟨L, off, none⟩)] w fun e w' => e = .returned (.pointer (some ⟨b, 0, none⟩)) ∧ w' = w := by
  have np := npChunk
  have nn := nnChunk
  go_enter Ybaf.func41, Ybaf.ntmps41
  go_wp2_with (go_at_call 21; refine (loadChunk_some L off b w hc hs).mono ?_; rintro e w' ⟨rfl, rfl⟩)
  go_ret
  exact ⟨rfl, rfl⟩
set_option maxRecDepth 100000 in
theorem makeChunk_none (L off : Nat) (w : World) (hc : w.cell? ⟨L, off, none⟩ = some (.pointer none)) (hz : w.frozen? ⟨L, off, none⟩ = false) :
    Calls Ybaf.prog 41 #[.pointer (some ⟨L, off, none⟩)] w fun e w' => e = .returned (.pointer (some ⟨w.heap.size, 0, none⟩)) ∧ w' = (w.alloc (.cells zc91 91)).setCell ⟨L, off, none⟩ (.pointer (some ⟨w.heap.size, 0, none⟩)) := by
  have np := npChunk
  have nn := nnChunk
  have hL : L < w.heap.size := World.block_lt_of_cell? _ _ hc
  have hc1 : (w.alloc (.cells zc91 91)).cell? ⟨L, off, none⟩ = some (.pointer none) := (World.cell?_of_block (a := ⟨L, off, none⟩) (Below.heap_alloc w _ L hL)).trans hc
  have hz1 : (w.alloc (.cells zc91 91)).frozen? ⟨L, off, none⟩ = false := (World.frozen?_of_block (a := ⟨L, off, none⟩) (Below.heap_alloc w _ L hL)).trans hz
  have hv : (w.alloc (.cells zc91 91)).cell? ⟨w.heap.size, 0, none⟩ = some (zc91[0]'(by rw [sizeChunk]; decide)) := by
    have h : (w.alloc (.cells zc91 91)).heap[w.heap.size]? = some (.cells zc91 91) := heapNew _ _
    unfold World.cell?; simp only [h]; simp [sizeChunk]
  go_enter Ybaf.func41, Ybaf.ntmps41
  go_wp2_with fail
  refine (loadChunk_none L off w hc).mono ?_
  rintro e w' ⟨rfl, rfl⟩
  go_wp2_with fail
  refine (casChunk L off _ _ _ hc1 hz1 hv).mono ?_
  rintro e w2 ⟨rfl, hw2⟩
  have hc2 : w2.cell? ⟨L, off, none⟩ = some (.pointer (some ⟨w'.heap.size, 0, none⟩)) := by rw [hw2]; exact World.cell?_setCell_same _ _ _ hc1
  have hs2 : w2.shape? w'.heap.size = some (91, 8192) := by rw [hw2]; exact (shape_setCell _ _ _ _).trans (zeroChunk w')
  replace hw2 : Hid _ := hw2
  go_wp2_with fail
  refine (loadChunk_some L off w'.heap.size _ hc2 hs2).mono ?_
  rintro e w3 ⟨rfl, rfl⟩
  go_wp2
  go_ret
  exact ⟨rfl, hw2.out⟩

/-! ### FPage -/
theorem uFPage : Ybaf.prog.underlying 45 = some (.pointer 127) := by kernel_rfl
theorem liesFPage : liesAt Ybaf.prog Ybaf.prog.depth 127 (1024 / Ybaf.prog.cellsOf 127) 0 127 1 = true := by kernel_rfl
theorem loadFPage_some (L off b : Nat) (w : World) (hc : w.cell? ⟨L, off, none⟩ = some (.pointer (some ⟨b, 0, none⟩))) (hs : w.shape? b = some (127, 1024)) :
    Calls Ybaf.prog 52 #[.pointer (some ⟨L, off, none⟩)] w fun e w' => e = .returned (.pointer (some ⟨b, 0, none⟩)) ∧ w' = w := by
  have k1 := loadP ⟨L, off, none⟩ _ w hc
  have k2 : (convert 39 45 (.pointer (some ⟨b, 0, none⟩))).run Ybaf.prog w = .ok (.pointer (some ⟨b, 0, none⟩)) w := by
    obtain ⟨j, hj⟩ : ∃ j, Ybaf.prog.info? 127 = some j := Option.isSome_iff_exists.1 (by kernel_rfl)
    exact Go.Lib.run_from_unsafe (P := Ybaf.prog) w ⟨b, 0, none⟩ u39 uFPage hj hs liesFPage
  go_enter Ybaf.func52, Ybaf.ntmps52
  go_wp2
  go_ret
  exact ⟨rfl, rfl⟩
theorem loadFPage_none (L off : Nat) (w : World) (hc : w.cell? ⟨L, off, none⟩ = some (.pointer none)) :
    Calls Ybaf.prog 52 #[.pointer (some ⟨L, off, none⟩)] w fun e w' => e = .returned (.pointer none) ∧ w' = w := by
  have k1 := loadP ⟨L, off, none⟩ _ w hc
  have k2 : (convert 39 45 (.pointer none)).run Ybaf.prog w = .ok (.pointer none) w := run_convert_nil_from (P := Ybaf.prog) u39 uFPage
  go_enter Ybaf.func52, Ybaf.ntmps52
  go_wp2
  go_ret
  exact ⟨rfl, rfl⟩
theorem casFPage (L off b : Nat) (v : Value) (w : World) (hc : w.cell? ⟨L, off, none⟩ = some (.pointer none)) (hz : w.frozen? ⟨L, off, none⟩ = false) (hv : w.cell? ⟨b, 0, none⟩ = some v) :
    Calls Ybaf.prog 53 #[.pointer (some ⟨L, off, none⟩), .pointer none, .pointer (some ⟨b, 0, none⟩)] w fun e w' => e = .returned (.bool true) ∧ w' = w.setCell ⟨L, off, none⟩ (.pointer (some ⟨b, 0, none⟩)) := by
  have k1 := casP ⟨L, off, none⟩ (some ⟨b, 0, none⟩) w hc hz
  have k2 : (convert 45 39 (.pointer (some ⟨b, 0, none⟩))).run Ybaf.prog w = .ok (.pointer (some ⟨b, 0, none⟩)) w := run_convert_to_unsafe (P := Ybaf.prog) uFPage u39 (by kernel_rfl) hv
  have k3 : (convert 45 39 (.pointer none)).run Ybaf.prog w = .ok (.pointer none) w := run_convert_nil_to (P := Ybaf.prog) uFPage u39
  go_enter Ybaf.func53, Ybaf.ntmps53
  go_wp2
  go_ret
  exact ⟨rfl, rfl⟩
noncomputable def zc127 : Array Value := Array.replicate 1024 (.pointer none)
theorem zv127 (w : World) : (zeroValue 127).run Ybaf.prog w = .ok (.agg zc127) w := by kernel_rfl
attribute [local go_sem] zv127
theorem sizeFPage : zc127.size = 1024 := by kernel_rfl
theorem zeroFPage (w : World) : (w.alloc (.cells zc127 127)).shape? w.heap.size = some (127, 1024) := by
  have h : (w.alloc (.cells zc127 127)).heap[w.heap.size]? = some (.cells zc127 127) := heapNew _ _
  unfold World.shape?; rw [h]; simp [sizeFPage]
theorem npFPage (a : Addr) (w : World) : (binOp .neq 45 (.pointer (some a)) (.pointer none)).run Ybaf.prog w = .ok (.bool true) w := run_neq_pointer_nil (P := Ybaf.prog) w 45 _ (by kernel_rfl)
theorem nnFPage (w : World) : (binOp .neq 45 (.pointer none) (.pointer none)).run Ybaf.prog w = .ok (.bool false) w := run_neq_pointer_nil (P := Ybaf.prog) w 45 _ (by kernel_rfl)
set_option maxRecDepth 100000 in
theorem makeFPage_some (L off b : Nat) (w : World) (hc : w.cell? ⟨L, off, none⟩ = some (.pointer (some ⟨b, 0, none⟩))) (hs : w.shape? b = some (127, 1024)) :
    Calls Ybaf.prog 42 #[.pointer (some ⟨L, off, none⟩)] w fun e w' => e = .returned (.pointer (some ⟨b, 0, none⟩)) ∧ w' = w := by
  have np := npFPage
  have nn := nnFPage
  go_enter Ybaf.func42, Ybaf.ntmps42
  go_wp2_with (go_at_call 52; refine (loadFPage_some L off b w hc hs).mono ?_; rintro e w' ⟨rfl, rfl⟩)
  go_ret
  exact ⟨rfl, rfl⟩
set_option maxRecDepth 100000 in
theorem makeFPage_none (L off : Nat) (w : World) (hc : w.cell? ⟨L, off, none⟩ = some (.pointer none)) (hz : w.frozen? ⟨L, off, none⟩ = false) :
    Calls Ybaf.prog 42 #[.pointer (some ⟨L, off, none⟩)] w fun e w' => e = .returned (.pointer (some ⟨w.heap.size, 0, none⟩)) ∧ w' = (w.alloc (.cells zc127 127)).setCell ⟨L, off, none⟩ (.pointer (some ⟨w.heap.size, 0, none⟩)) := by
  have np := npFPage
  have nn := nnFPage
  have hL : L < w.heap.size := World.block_lt_of_cell? _ _ hc
  have hc1 : (w.alloc (.cells zc127 127)).cell? ⟨L, off, none⟩ = some (.pointer none) := (World.cell?_of_block (a := ⟨L, off, none⟩) (Below.heap_alloc w _ L hL)).trans hc
  have hz1 : (w.alloc (.cells zc127 127)).frozen? ⟨L, off, none⟩ = false := (World.frozen?_of_block (a := ⟨L, off, none⟩) (Below.heap_alloc w _ L hL)).trans hz
  have hv : (w.alloc (.cells zc127 127)).cell? ⟨w.heap.size, 0, none⟩ = some (zc127[0]'(by rw [sizeFPage]; decide)) := by
    have h : (w.alloc (.cells zc127 127)).heap[w.heap.size]? = some (.cells zc127 127) := heapNew _ _
    unfold World.cell?; simp only [h]; simp [sizeFPage]
  go_enter Ybaf.func42, Ybaf.ntmps42
  go_wp2_with fail
  refine (loadFPage_none L off w hc).mono ?_
  rintro e w' ⟨rfl, rfl⟩
  go_wp2_with fail
  refine (casFPage L off _ _ _ hc1 hz1 hv).mono ?_
  rintro e w2 ⟨rfl, hw2⟩
  have hc2 : w2.cell? ⟨L, off, none⟩ = some (.pointer (some ⟨w'.heap.size, 0, none⟩)) := by rw [hw2]; exact World.cell?_setCell_same _ _ _ hc1
  have hs2 : w2.shape? w'.heap.size = some (127, 1024) := by rw [hw2]; exact (shape_setCell _ _ _ _).trans (zeroFPage w')
  replace hw2 : Hid _ := hw2
  go_wp2_with fail
  refine (loadFPage_some L off w'.heap.size _ hc2 hs2).mono ?_
  rintro e w3 ⟨rfl, rfl⟩
  go_wp2
  go_ret
  exact ⟨rfl, hw2.out⟩

/-! ### FChunk -/
theorem uFChunk : Ybaf.prog.underlying 122 = some (.pointer 131) := by kernel_rfl
theorem liesFChunk : liesAt Ybaf.prog Ybaf.prog.depth 131 (2048 / Ybaf.prog.cellsOf 131) 0 131 1 = true := by kernel_rfl
theorem loadFChunk_some (L off b : Nat) (w : World) (hc : w.cell? ⟨L, off, none⟩ = some (.pointer (some ⟨b, 0, none⟩))) (hs : w.shape? b = some (131, 2048)) :
    Calls Ybaf.prog 54 #[.pointer (some ⟨L, off, none⟩)] w fun e w' => e = .returned (.pointer (some ⟨b, 0, none⟩)) ∧ w' = w := by
  have k1 := loadP ⟨L, off, none⟩ _ w hc
  have k2 : (convert 39 122 (.pointer (some ⟨b, 0, none⟩))).run Ybaf.prog w = .ok (.pointer (some ⟨b, 0, none⟩)) w := by
    obtain ⟨j, hj⟩ : ∃ j, Ybaf.prog.info? 131 = some j := Option.isSome_iff_exists.1 (by kernel_rfl)
    exact Go.Lib.run_from_unsafe (P := Ybaf.prog) w ⟨b, 0, none⟩ u39 uFChunk hj hs liesFChunk
  go_enter Ybaf.func54, Ybaf.ntmps54
  go_wp2
  go_ret
  exact ⟨rfl, rfl⟩
theorem loadFChunk_none (L off : Nat) (w : World) (hc : w.cell? ⟨L, off, none⟩ = some (.pointer none)) :
    Calls Ybaf.prog 54 #[.pointer (some ⟨L, off, none⟩)] w fun e w' => e = .returned (.pointer none) ∧ w' = w := by
  have k1 := loadP ⟨L, off, none⟩ _ w hc
  have k2 : (convert 39 122 (.pointer none)).run Ybaf.prog w = .ok (.pointer none) w := run_convert_nil_from (P := Ybaf.prog) u39 uFChunk
  go_enter Ybaf.func54, Ybaf.ntmps54
  go_wp2
  go_ret
  exact ⟨rfl, rfl⟩
theorem casFChunk (L off b : Nat) (v : Value) (w : World) (hc : w.cell? ⟨L, off, none⟩ = some (.pointer none)) (hz : w.frozen? ⟨L, off, none⟩ = false) (hv : w.cell? ⟨b, 0, none⟩ = some v) :
    Calls Ybaf.prog 55 #[.pointer (some ⟨L, off, none⟩), .pointer none, .pointer (some ⟨b, 0, none⟩)] w fun e w' => e = .returned (.bool true) ∧ w' = w.setCell ⟨L, off, none⟩ (.pointer (some ⟨b, 0, none⟩)) := by
  have k1 := casP ⟨L, off, none⟩ (some ⟨b, 0, none⟩) w hc hz
  have k2 : (convert 122 39 (.pointer (some ⟨b, 0, none⟩))).run Ybaf.prog w = .ok (.pointer (some ⟨b, 0, none⟩)) w := run_convert_to_unsafe (P := Ybaf.prog) uFChunk u39 (by kernel_rfl) hv
  have k3 : (convert 122 39 (.pointer none)).run Ybaf.prog w = .ok (.pointer none) w := run_convert_nil_to (P := Ybaf.prog) uFChunk u39
  go_enter Ybaf.func55, Ybaf.ntmps55
  go_wp2
  go_ret
  exact ⟨rfl, rfl⟩
noncomputable def zc131 : Array Value := Array.replicate 2048 (.slice none 0 0)
theorem zv131 (w : World) : (zeroValue 131).run Ybaf.prog w = .ok (.agg zc131) w := by kernel_rfl
attribute [local go_sem] zv131
theorem sizeFChunk : zc131.size = 2048 := by kernel_rfl
theorem zeroFChunk (w : World) : (w.alloc (.cells zc131 131)).shape? w.heap.size = some (131, 2048) := by
  have h : (w.alloc (.cells zc131 131)).heap[w.heap.size]? = some (.cells zc131 131) := heapNew _ _
  unfold World.shape?; rw [h]; simp [sizeFChunk]
theorem npFChunk (a : Addr) (w : World) : (binOp .neq 122 (.pointer (some a)) (.pointer none)).run Ybaf.prog w = .ok (.bool true) w := run_neq_pointer_nil (P := Ybaf.prog) w 122 _ (by kernel_rfl)
theorem nnFChunk (w : World) : (binOp .neq 122 (.pointer none) (.pointer none)).run Ybaf.prog w = .ok (.bool false) w := run_neq_pointer_nil (P := Ybaf.prog) w 122 _ (by kernel_rfl)
set_option maxRecDepth 100000 in
theorem makeFChunk_some (L off b : Nat) (w : World) (hc : w.cell? ⟨L, off, none⟩ = some (.pointer (some ⟨b, 0, none⟩))) (hs : w.shape? b = some (131, 2048)) :
    Calls Ybaf.prog 43 #[.pointer (some ⟨L, off, none⟩)] w fun e w' => e = .returned (.pointer (some ⟨b, 0, none⟩)) ∧ w' = w := by
  have np := npFChunk
  have nn := nnFChunk
  go_enter Ybaf.func43, Ybaf.ntmps43
  go_wp2_with (go_at_call 54; refine (loadFChunk_some L off b w hc hs).mono ?_; rintro e w' ⟨rfl, rfl⟩)
  go_ret
  exact ⟨rfl, rfl⟩
set_option maxRecDepth 100000 in
theorem makeFChunk_none (L off : Nat) (w : World) (hc : w.cell? ⟨L, off, none⟩ = some (.pointer none)) (hz : w.frozen? ⟨L, off, none⟩ = false) :
    Calls Ybaf.prog 43 #[.pointer (some ⟨L, off, none⟩)] w fun e w' => e = .returned (.pointer (some ⟨w.heap.size, 0, none⟩)) ∧ w' = (w.alloc (.cells zc131 131)).setCell ⟨L, off, none⟩ (.pointer (some ⟨w.heap.size, 0, none⟩)) := by
  have np := npFChunk
  have nn := nnFChunk
  have hL : L < w.heap.size := World.block_lt_of_cell? _ _ hc
  have hc1 : (w.alloc (.cells zc131 131)).cell? ⟨L, off, none⟩ = some (.pointer none) := (World.cell?_of_block (a := ⟨L, off, none⟩) (Below.heap_alloc w _ L hL)).trans hc
  have hz1 : (w.alloc (.cells zc131 131)).frozen? ⟨L, off, none⟩ = false := (World.frozen?_of_block (a := ⟨L, off, none⟩) (Below.heap_alloc w _ L hL)).trans hz
  have hv : (w.alloc (.cells zc131 131)).cell? ⟨w.heap.size, 0, none⟩ = some (zc131[0]'(by rw [sizeFChunk]; decide)) := by
    have h : (w.alloc (.cells zc131 131)).heap[w.heap.size]? = some (.cells zc131 131) := heapNew _ _
    unfold World.cell?; simp only [h]; simp [sizeFChunk]
  go_enter Ybaf.func43, Ybaf.ntmps43
  go_wp2_with fail
  refine (loadFChunk_none L off w hc).mono ?_
  rintro e w' ⟨rfl, rfl⟩
  go_wp2_with fail
  refine (casFChunk L off _ _ _ hc1 hz1 hv).mono ?_
  rintro e w2 ⟨rfl, hw2⟩
  have hc2 : w2.cell? ⟨L, off, none⟩ = some (.pointer (some ⟨w'.heap.size, 0, none⟩)) := by rw [hw2]; exact World.cell?_setCell_same _ _ _ hc1
  have hs2 : w2.shape? w'.heap.size = some (131, 2048) := by rw [hw2]; exact (shape_setCell _ _ _ _).trans (zeroFChunk w')
  replace hw2 : Hid _ := hw2
  go_wp2_with fail
  refine (loadFChunk_some L off w'.heap.size _ hc2 hs2).mono ?_
  rintro e w3 ⟨rfl, rfl⟩
  go_wp2
  go_ret
  exact ⟨rfl, hw2.out⟩

/-! ### a fresh chunk's cells -/
def chk4 : List Value → Bool
  | .int .u32 0 :: .int .u32 0 :: .float .f64 0 :: .float .f64 0 :: r => chk4 r
  | [] => true
  | _ => false
theorem chk91 : chk4 zc91.toList = true := by kernel_rfl
theorem chk4_at : ∀ (l : List Value) (i : Nat), chk4 l = true → 4 * i < l.length → l[4 * i]? = some (.int .u32 0) ∧ l[4 * i + 1]? = some (.int .u32 0) ∧ l[4 * i + 2]? = some (.float .f64 0) ∧ l[4 * i + 3]? = some (.float .f64 0) := by
  intro l
  induction l using chk4.induct with
  | case1 r ih =>
    intro i h hl
    simp only [chk4] at h
    cases i with
    | zero => simp
    | succ i =>
      have := ih i h (by simp at hl; omega)
      rw [show 4 * (i + 1) = 4 * i + 1 + 1 + 1 + 1 by omega]
      simpa using this
  | case2 => intro i h hl; simp at hl
  | case3 l h1 h2 => intro i h; simp [chk4] at h
theorem zc91_at (i : Nat) (hi : i < 2048) : zc91[4 * i]? = some (.int .u32 0) ∧ zc91[4 * i + 1]? = some (.int .u32 0) ∧ zc91[4 * i + 2]? = some (.float .f64 0) ∧ zc91[4 * i + 3]? = some (.float .f64 0) := by
  have := chk4_at zc91.toList i chk91 (by rw [Array.length_toList, sizeChunk]; omega)
  simpa using this
theorem zc88_at (i : Nat) (hi : i < 1024) : zc88[i]? = some (.pointer none) := by simp [zc88, hi]
theorem zc127_at (i : Nat) (hi : i < 1024) : zc127[i]? = some (.pointer none) := by simp [zc127, hi]
theorem zc131_at (i : Nat) (hi : i < 2048) : zc131[i]? = some (.slice none 0 0) := by simp [zc131, hi]
end Go.Proofs.YbulkbjwiFmt
