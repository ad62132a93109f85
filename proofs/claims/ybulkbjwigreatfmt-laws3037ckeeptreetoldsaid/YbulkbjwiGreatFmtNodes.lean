/-
  THE WALKS OF WHAT (*tree).nodeList CALLS OVER A TREE WHOSE INDEX HOLDS NO NODE, over this seat's translation.
-/
import Derived.Test.YbulkbjwiGreatFmtMk
import Derived.Deep.RegionHeld3
import Derived.Deep.DrawnRows
import Derived.Laws.EntriesVeiled
namespace Go.Proofs.YbulkbjwiGreatFmt
open Go.RowKit
attribute [local go_sem ↓] Go.wp_at_zero Go.wp_at_succ

theorem load32 (a : Addr) (x : Int) (w : World) (hc : w.cell? a = some (.int .u32 x)) : (callFunc 42 #[.pointer (some a)]).run Ybaz.prog w = .ok (.value (.int .u32 x)) w :=
  run_call_load (P := Ybaz.prog) Ybaz.func42 (by kernel_rfl) (by kernel_rfl) (by kernel_rfl) .u32 (by kernel_rfl) hc
theorem load32M (L off : Nat) (x : Int) (w : World) (hc : w.cell? ⟨L, off, none⟩ = some (.int .u32 x)) :
    Calls Ybaz.prog 25 #[.pointer (some ⟨L, off, none⟩)] w fun e w' => e = .returned (.int .u32 x) ∧ w' = w := by
  have k1 := load32 ⟨L, off, none⟩ x w hc
  go_enter Ybaz.func25, Ybaz.ntmps25
  go_wp2
  go_ret
  exact ⟨rfl, rfl⟩

/-- (*kdtree.Tree).walk at no node. -/
theorem walk_none (p f : Value) (d : Int) (w : World) :
    Calls Ybaz.prog 45 #[p, .int .u32 0, .int .i64 d, f] w fun e w' => e = .returned (.bool true) ∧ w' = w := by
  go_enter Ybaz.func45, Ybaz.ntmps45
  go_wp2
  go_ret
  exact ⟨rfl, rfl⟩

theorem all_any (a : Addr) (w : World) :
    Calls Ybaz.prog 27 #[.pointer (some a)] w fun e w' => e = .returned (.func (.func 44) #[] #[.pointer (some ⟨w.heap.size, 0, none⟩)]) ∧ w' = w.alloc (.cells #[.pointer (some a)] 32) := by
  have hmf : ∀ (fn : Fn) (first cap : Array Value) (w : World), (Instr.makeFunc fn first cap).run Ybaz.prog w = .ok (.func fn first cap) w := fun _ _ _ _ => rfl
  go_enter Ybaz.func27, Ybaz.ntmps27
  go_wp2
  go_ret
  exact ⟨rfl, rfl⟩

set_option maxHeartbeats 1000000 in
theorem all1_none (l X Bx : Nat) (w : World) (hb : w.cell? ⟨Bx, 0, none⟩ = some (.pointer (some ⟨X, 0, none⟩))) (hr : w.cell? ⟨X, 1, none⟩ = some (.int .u32 0)) :
    Calls Ybaz.prog 44 #[.func (.yield l) #[] #[], .pointer (some ⟨Bx, 0, none⟩)] w fun e w' => e = .returned (.tuple #[]) ∧ Below w.heap.size w w' := by
  have hmf : ∀ (fn : Fn) (first cap : Array Value) (w : World), (Instr.makeFunc fn first cap).run Ybaz.prog w = .ok (.func fn first cap) w := fun _ _ _ _ => rfl
  go_enter Ybaz.func44, Ybaz.ntmps44
  go_wp2_with fail
  go_region_held3 (fun w' => w'.cell? ⟨Bx, 0, none⟩ = some (.pointer (some ⟨X, 0, none⟩)) ∧ w'.cell? ⟨X, 1, none⟩ = some (.int .u32 0)) (go_keep)
    (first
      | (go_at_call 25; refine (load32M X 1 0 _ ?_).mono ?_; (simp [*]); rintro e w' ⟨rfl, rfl⟩)
      | (go_at_call 45; refine (walk_none _ _ _ _).mono ?_; rintro e w' ⟨rfl, rfl⟩))
  all_goals
    go_wp2
    go_end0
    exact ⟨rfl, ((Below.refl _ _).alloc (Nat.le_refl _) _).drew⟩

set_option maxRecDepth 100000 in
set_option maxHeartbeats 1000000 in
theorem len_zero (w : World) : Calls Ybaz.prog 48 #[.int .u64 0] w fun e w' => e = .returned (.int .i64 0) ∧ w' = w := by
  go_enter Ybaz.func48, Ybaz.ntmps48
  go_wp2
  go_ret
  exact ⟨by kernel_rfl, rfl⟩

theorem ins_none (s f : Value) (w : World) : Calls Ybaz.prog 64 #[s, .int .i64 0, .int .i64 0, f] w fun e w' => e = .returned (.tuple #[]) ∧ w' = w := by
  go_enter Ybaz.func64, Ybaz.ntmps64
  go_wp2
  refine wp_loop_rounds 1 ?_; rw [rounds_succ]
  go_wp2
  go_end0
  exact ⟨rfl, rfl⟩

theorem pdq_none (s f : Value) (w : World) : Calls Ybaz.prog 47 #[s, .int .i64 0, .int .i64 0, .int .i64 0, f] w fun e w' => e = .returned (.tuple #[]) ∧ w' = w := by
  go_enter Ybaz.func47, Ybaz.ntmps47
  go_wp2
  refine wp_loop_rounds 1 ?_; rw [rounds_succ]
  go_wp2_with (go_at_call 64; refine (ins_none _ _ _).mono ?_; rintro e w' ⟨rfl, rfl⟩)
  first | go_end0 | (simp only [Exit.inBlock, Exit.then]; refine bodyPost_ret (results_none rfl _ _ _) rfl ?_) | refine bodyPost_ret (results_none rfl _ _ _) rfl ?_
  exact ⟨rfl, rfl⟩

theorem sort_none (a : Option Addr) (c : Nat) (f : Value) (w : World) : Calls Ybaz.prog 28 #[.slice a 0 c, f] w fun e w' => e = .returned (.tuple #[]) ∧ w' = w := by
  go_enter Ybaz.func28, Ybaz.ntmps28
  go_wp2_with (first
    | (go_at_call 48; refine (len_zero _).mono ?_; rintro e w' ⟨rfl, rfl⟩)
    | (go_at_call 47; refine (pdq_none _ _ _).mono ?_; rintro e w' ⟨rfl, rfl⟩))
  go_end0
  exact ⟨rfl, rfl⟩

theorem blen_zero (L off : Nat) (w : World) (hc : w.cell? ⟨L, off, none⟩ = some (.int .u32 0)) :
    Calls Ybaz.prog 34 #[.pointer (some ⟨L, off, none⟩)] w fun e w' => e = .returned (.int .i64 0) ∧ w' = w := by
  go_enter Ybaz.func34, Ybaz.ntmps34
  go_wp2_with (go_at_call 25; refine (load32M L off 0 _ hc).mono ?_; rintro e w' ⟨rfl, rfl⟩)
  go_ret
  exact ⟨rfl, rfl⟩

end Go.Proofs.YbulkbjwiGreatFmt
