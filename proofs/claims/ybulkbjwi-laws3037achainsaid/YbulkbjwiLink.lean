/-
  THE WALKS OF A LINK's METHODS (tree.go) AND OF WHAT THEY CALL, over this seat's translation.
-/
import Derived.Test.YbulkbjwiRows
import Derived.Test.YbulkbjwiBits
import Derived.WalkKit
import Derived.WalkSpells
import Derived.WalkLawsBesides
import Derived.Laws.LoneSync
import Derived.Laws.Pointers
import Derived.Deep.RegionWith
import Derived.BigQuiet
import Derived.Deep.QuietTactic
import Derived.Deep.RegionHeld3
import Derived.Deep.DrawnRows
namespace Go.Proofs.Ybulkbjwi
open Go.RowKit
attribute [local go_sem ↓] Go.wp_at_zero Go.wp_at_succ

/-! ### The library's functions without a body -/
theorem f64bits (b : Nat) (w : World) : (callFunc 5 #[.float .f64 b]).run Yba.prog w = .ok (.value (.int .u64 b)) w := by
  rw [run_callFunc_extern (e := Extern.MathFloatBits.float64bits) Yba.func5 (by kernel_rfl) (by kernel_rfl) (by kernel_rfl) (by kernel_rfl)]
  rfl
theorem f64from (n : Int) (w : World) : (callFunc 16 #[.int .u64 n]).run Yba.prog w = .ok (.value (.float .f64 n.toNat)) w := by
  rw [run_callFunc_extern (e := Extern.MathFloatBits.float64frombits) Yba.func16 (by kernel_rfl) (by kernel_rfl) (by kernel_rfl) (by kernel_rfl)]
  rfl

/-- math.Abs. -/
theorem abs_any (b : Nat) (hb : b < 18446744073709551616) (w : World) :
    Calls Yba.prog 10 #[.float .f64 b] w fun e w' => e = .returned (.float .f64 (low b).toNat) ∧ w' = w := by
  have h1 := f64bits
  have h2 := f64from
  have h3 := bits_low b (by omega) (by omega)
  go_enter Yba.func10, Yba.ntmps10
  go_wp2
  go_ret
  exact ⟨rfl, rfl⟩

/-- 'a < b' on float64s, by their bits. -/
def flt (a b : Nat) : Bool := FloatKind.f64.format.order a b == some .lt

theorem load64 (a : Addr) (x : Int) (w : World) (hc : w.cell? a = some (.int .u64 x)) : (callFunc 19 #[.pointer (some a)]).run Yba.prog w = .ok (.value (.int .u64 x)) w :=
  run_call_load (P := Yba.prog) Yba.func19 (by kernel_rfl) (by kernel_rfl) (by kernel_rfl) .u64 (by kernel_rfl) hc
theorem store64 (a : Addr) (y : Int) (u : Value) (w : World) (hc : w.cell? a = some u) (hz : w.frozen? a = false) : (callFunc 15 #[.pointer (some a), .int .u64 y]).run Yba.prog w = .ok (.value (.tuple #[])) (w.setCell a (.int .u64 y)) :=
  run_call_store (P := Yba.prog) Yba.func15 (by kernel_rfl) (by kernel_rfl) (by kernel_rfl) (by kernel_rfl) hc hz
theorem cas64 (a : Addr) (x y : Int) (w : World) (hc : w.cell? a = some (.int .u64 x)) (hz : w.frozen? a = false) : (callFunc 20 #[.pointer (some a), .int .u64 x, .int .u64 y]).run Yba.prog w = .ok (.value (.bool true)) (w.setCell a (.int .u64 y)) :=
  run_call_cas_hit (P := Yba.prog) Yba.func20 (by kernel_rfl) (by kernel_rfl) (by kernel_rfl) .u64 (by kernel_rfl) hc hz

/-- (*atomic.Uint64).Load. -/
theorem loadM (L off : Nat) (x : Int) (w : World) (hc : w.cell? ⟨L, off, none⟩ = some (.int .u64 x)) :
    Calls Yba.prog 11 #[.pointer (some ⟨L, off, none⟩)] w fun e w' => e = .returned (.int .u64 x) ∧ w' = w := by
  have k1 := load64 ⟨L, off, none⟩ x w hc
  go_enter Yba.func11, Yba.ntmps11
  go_wp2
  go_ret
  exact ⟨rfl, rfl⟩

/-- (*atomic.Uint64).CompareAndSwap, where the word is the old one. -/
theorem casM (L off : Nat) (x y : Int) (w : World) (hc : w.cell? ⟨L, off, none⟩ = some (.int .u64 x)) (hz : w.frozen? ⟨L, off, none⟩ = false) :
    Calls Yba.prog 17 #[.pointer (some ⟨L, off, none⟩), .int .u64 x, .int .u64 y] w fun e w' => e = .returned (.bool true) ∧ w' = w.setCell ⟨L, off, none⟩ (.int .u64 y) := by
  have k1 := cas64 ⟨L, off, none⟩ x y w hc hz
  go_enter Yba.func17, Yba.ntmps17
  go_wp2
  go_ret
  exact ⟨rfl, rfl⟩

/-! ### lowerTo -/
theorem lower_no (c : Nat) (x : Int) (L off : Nat) (w : World) (h0 : 0 ≤ x) (h1 : x < 18446744073709551616) (hc : w.cell? ⟨L, off + 2, none⟩ = some (.int .u64 x)) (h : flt c (low x).toNat = false) :
    Calls Yba.prog 8 #[.pointer (some ⟨L, off, none⟩), .float .f64 c] w fun e w' => e = .returned (.tuple #[.bool false, .bool false]) ∧ w' = w := by
  have k2 := f64from
  have k3 := bits_low x h0 h1
  unfold flt at h
  go_enter Yba.func8, Yba.ntmps8
  go_wp2_with (go_at_call 11; refine (loadM L (off + 2) x w hc).mono ?_; rintro e w' ⟨rfl, rfl⟩)
  go_ret2
  exact ⟨rfl, rfl⟩

set_option maxHeartbeats 400000 in
theorem lower_sealed (c : Nat) (x : Int) (L off : Nat) (w : World) (h0 : 9223372036854775808 ≤ x) (h1 : x < 18446744073709551616) (hc : w.cell? ⟨L, off + 2, none⟩ = some (.int .u64 x)) (h : flt c (low x).toNat = true) :
    Calls Yba.prog 8 #[.pointer (some ⟨L, off, none⟩), .float .f64 c] w fun e w' => e = .returned (.tuple #[.bool false, .bool true]) ∧ ∃ n, w' = w.drewN n := by
  have k2 := f64from
  have k3 := bits_low x (by omega) h1
  have k4 : (bits .and .u64 x 9223372036854775808 != 0) = true := by rw [bits_top x (by omega) h1, if_neg (by omega)]; decide
  unfold flt at h
  go_enter Yba.func8, Yba.ntmps8
  go_wp2_with (go_at_call 11; refine (loadM L (off + 2) x w hc).mono ?_; rintro e w' ⟨rfl, rfl⟩)
  go_quiet ((fail))
  go_wp2
  go_ret2
  exact ⟨rfl, _, rfl⟩

set_option maxHeartbeats 1000000 in
theorem lower_yes (c : Nat) (x : Int) (L off : Nat) (w : World) (h0 : 0 ≤ x) (h1 : x < 9223372036854775808) (hc : w.cell? ⟨L, off + 2, none⟩ = some (.int .u64 x)) (hz : w.frozen? ⟨L, off + 2, none⟩ = false) (h : flt c (low x).toNat = true) :
    Calls Yba.prog 8 #[.pointer (some ⟨L, off, none⟩), .float .f64 c] w fun e w' => e = .returned (.tuple #[.bool true, .bool false]) ∧ w' = (w.setCell ⟨L, off + 2, none⟩ (.int .u64 c)).drew := by
  have k2 := f64from
  have k5 := f64bits
  have k3 := bits_low x (by omega) (by omega)
  have k4 : (bits .and .u64 x 9223372036854775808 != 0) = false := by rw [bits_top x (by omega) (by omega), if_pos (by omega)]; decide
  unfold flt at h
  go_enter Yba.func8, Yba.ntmps8
  go_wp2_with (go_at_call 11; refine (loadM L (off + 2) x w hc).mono ?_; rintro e w' ⟨rfl, rfl⟩)
  go_region_held3 (fun _ => True) (trivial) ((go_at_call 17; refine (casM L (off + 2) x c _ ?_ ?_).mono ?_; exact hc; exact hz; rintro e w' ⟨rfl, rfl⟩))
  go_wp2
  go_ret2
  exact ⟨rfl, rfl⟩

/-! ### seal, cost -/
theorem cost_any (x : Int) (L off : Nat) (w : World) (h0 : 0 ≤ x) (h1 : x < 18446744073709551616) (hc : w.cell? ⟨L, off + 2, none⟩ = some (.int .u64 x)) :
    Calls Yba.prog 13 #[.pointer (some ⟨L, off, none⟩)] w fun e w' => e = .returned (.float .f64 (low x).toNat) ∧ w' = w := by
  have k2 := f64from
  have k3 := bits_low x h0 h1
  go_enter Yba.func13, Yba.ntmps13
  go_wp2_with (go_at_call 11; refine (loadM L (off + 2) x w hc).mono ?_; rintro e w' ⟨rfl, rfl⟩)
  go_ret
  exact ⟨rfl, rfl⟩

set_option maxHeartbeats 1000000 in
theorem seal_done (x : Int) (L off : Nat) (w : World) (h0 : 9223372036854775808 ≤ x) (h1 : x < 18446744073709551616) (hc : w.cell? ⟨L, off + 2, none⟩ = some (.int .u64 x)) :
    Calls Yba.prog 12 #[.pointer (some ⟨L, off, none⟩)] w fun e w' => e = .returned (.float .f64 (low x).toNat) ∧ w' = w := by
  have k2 := f64from
  have k3 := bits_low x (by omega) h1
  have k4 : (bits .and .u64 x 9223372036854775808 != 0) = true := by rw [bits_top x (by omega) h1, if_neg (by omega)]; decide
  go_enter Yba.func12, Yba.ntmps12
  go_wp2
  refine wp_loop_rounds 1 ?_; rw [rounds_succ]
  go_wp2_with (go_at_call 11; refine (loadM L (off + 2) x w hc).mono ?_; rintro e w' ⟨rfl, rfl⟩)
  go_ret
  exact ⟨rfl, rfl⟩

set_option maxHeartbeats 1000000 in
theorem seal_now (x : Int) (L off : Nat) (w : World) (h0 : 0 ≤ x) (h1 : x < 9223372036854775808) (hc : w.cell? ⟨L, off + 2, none⟩ = some (.int .u64 x)) (hz : w.frozen? ⟨L, off + 2, none⟩ = false) :
    Calls Yba.prog 12 #[.pointer (some ⟨L, off, none⟩)] w fun e w' => e = .returned (.float .f64 (low x).toNat) ∧ w' = (w.setCell ⟨L, off + 2, none⟩ (.int .u64 (low x + 9223372036854775808))) := by
  have k2 := f64from
  have k5 := f64bits
  have k3 := bits_low x (by omega) (by omega)
  have k6 := bits_or_top x (by omega) (by omega)
  have k4 : (bits .and .u64 x 9223372036854775808 != 0) = false := by rw [bits_top x (by omega) (by omega), if_pos (by omega)]; decide
  go_enter Yba.func12, Yba.ntmps12
  go_wp2
  refine wp_loop_rounds 1 ?_; rw [rounds_succ]
  go_wp2_with (first | (go_at_call 11; refine (loadM L (off + 2) x w hc).mono ?_; rintro e w' ⟨rfl, rfl⟩) | (go_at_call 17; refine (casM L (off + 2) x _ _ hc hz).mono ?_; rintro e w' ⟨rfl, rfl⟩))
  go_ret
  exact ⟨rfl, rfl⟩

/-! ### the other atomics -/
theorem store32 (a : Addr) (y : Int) (u : Value) (w : World) (hc : w.cell? a = some u) (hz : w.frozen? a = false) : (callFunc 14 #[.pointer (some a), .int .u32 y]).run Yba.prog w = .ok (.value (.tuple #[])) (w.setCell a (.int .u32 y)) :=
  run_call_store (P := Yba.prog) Yba.func14 (by kernel_rfl) (by kernel_rfl) (by kernel_rfl) (by kernel_rfl) hc hz
theorem load32 (a : Addr) (x : Int) (w : World) (hc : w.cell? a = some (.int .u32 x)) : (callFunc 18 #[.pointer (some a)]).run Yba.prog w = .ok (.value (.int .u32 x)) w :=
  run_call_load (P := Yba.prog) Yba.func18 (by kernel_rfl) (by kernel_rfl) (by kernel_rfl) .u32 (by kernel_rfl) hc
theorem storeM (L off : Nat) (u : Value) (y : Int) (w : World) (hc : w.cell? ⟨L, off, none⟩ = some u) (hz : w.frozen? ⟨L, off, none⟩ = false) :
    Calls Yba.prog 7 #[.pointer (some ⟨L, off, none⟩), .int .u64 y] w fun e w' => e = .returned (.tuple #[]) ∧ w' = w.setCell ⟨L, off, none⟩ (.int .u64 y) := by
  have k1 := store64 ⟨L, off, none⟩ y u w hc hz
  go_enter Yba.func7, Yba.ntmps7
  go_wp2
  go_end0
  exact ⟨rfl, rfl⟩
theorem storeM32 (L off : Nat) (u : Value) (y : Int) (w : World) (hc : w.cell? ⟨L, off, none⟩ = some u) (hz : w.frozen? ⟨L, off, none⟩ = false) :
    Calls Yba.prog 6 #[.pointer (some ⟨L, off, none⟩), .int .u32 y] w fun e w' => e = .returned (.tuple #[]) ∧ w' = w.setCell ⟨L, off, none⟩ (.int .u32 y) := by
  have k1 := store32 ⟨L, off, none⟩ y u w hc hz
  go_enter Yba.func6, Yba.ntmps6
  go_wp2
  go_end0
  exact ⟨rfl, rfl⟩
theorem loadM32 (L off : Nat) (x : Int) (w : World) (hc : w.cell? ⟨L, off, none⟩ = some (.int .u32 x)) :
    Calls Yba.prog 9 #[.pointer (some ⟨L, off, none⟩)] w fun e w' => e = .returned (.int .u32 x) ∧ w' = w := by
  have k1 := load32 ⟨L, off, none⟩ x w hc
  go_enter Yba.func9, Yba.ntmps9
  go_wp2
  go_ret
  exact ⟨rfl, rfl⟩

end Go.Proofs.Ybulkbjwi
