/-
  THE WALK OF (*tree).result AT NO GOAL, over this seat's translation.
-/
import Derived.Test.YbulkbjwiGreatFmtMk
import Derived.Deep.RegionHeld3
import Derived.Deep.DrawnRows
namespace Go.Proofs.YbulkbjwiGreatFmt
open Go.RowKit
attribute [local go_sem ↓] Go.wp_at_zero Go.wp_at_succ

/-- A store of a float. -/
theorem run_store_float {P : Program} {w : World} {a : Addr} {m : Mode} (k : FloatKind) (b : Nat) : (store a (.float k b) m).run P w = stored P w a (.float k b) m := run_store P w a _ m rfl
attribute [local go_sem] run_store_float

theorem f64from (n : Int) (w : World) : (callFunc 20 #[.int .u64 n]).run Ybaz.prog w = .ok (.value (.float .f64 n.toNat)) w := by
  rw [run_callFunc_extern (e := Extern.MathFloatBits.float64frombits) Ybaz.func20 (by kernel_rfl) (by kernel_rfl) (by kernel_rfl) (by kernel_rfl)]
  rfl
theorem inf_one (w : World) : Calls Ybaz.prog 10 #[.int .i64 1] w fun e w' => e = .returned (.float .f64 9218868437227405312) ∧ w' = w := by
  have k := f64from 9218868437227405312
  go_enter Ybaz.func10, Ybaz.ntmps10
  go_wp2
  go_ret
  exact ⟨rfl, rfl⟩
theorem gt_max : (FloatKind.f64.format.order 9218868437227405312 9218868437227405311 == some .gt) = true := by kernel_rfl
theorem isInf_yes (w : World) : Calls Ybaz.prog 7 #[.float .f64 9218868437227405312, .int .i64 1] w fun e w' => e = .returned (.bool true) ∧ w' = w := by
  have k := gt_max
  go_enter Ybaz.func7, Ybaz.ntmps7
  go_wp2
  go_ret
  exact ⟨rfl, rfl⟩

set_option maxHeartbeats 2000000 in
theorem result_off (R : Nat) (size samples : Int) (w : World) (hR : R + 3 ≤ w.heap.size) (hm : Made R size samples false w) :
    Calls Ybaz.prog 6 #[.pointer (some ⟨R + 2, 0, none⟩), .pointer none] w fun e w' =>
      e = .returned (.agg #[.bool false, .slice none 0 0, .float .f64 9218868437227405312, .int .i64 size, .int .i64 samples, .slice none 0 0]) ∧ Below w.heap.size w w' := by
  obtain ⟨m1, m2, m3, m4, m5, m6, m7, m8⟩ := hm
  have r0 : R < w.heap.size := by omega
  have r1 : R < w.heap.size + 1 := by omega
  have r2 : R < w.heap.size + 1 + 1 := by omega
  have t0 : R + 2 < w.heap.size := by omega
  have t1 : R + 2 < w.heap.size + 1 := by omega
  have t2 : R + 2 < w.heap.size + 1 + 1 := by omega
  go_enter Ybaz.func6, Ybaz.ntmps6
  go_wp2_with fail
  go_region_held3 (fun w' => w'.cell? ⟨R + 2, 0, none⟩ = some (.pointer (some ⟨R, 0, none⟩)) ∧ w'.cell? ⟨R + 2, 4104, none⟩ = some (.int .i64 size) ∧ w'.cell? ⟨R, 18, none⟩ = some (.int .i64 samples)) (go_keep)
    (first
      | (go_at_call 10; refine (inf_one _).mono ?_; rintro e w' ⟨rfl, rfl⟩)
      | (go_at_call 8; with_reducible refine (loadM (R + 2) 4104 size _ ?_).mono ?_; (simp [*]); rintro e w' ⟨rfl, rfl⟩)
      | (go_at_call 8; with_reducible refine (loadM R 18 samples _ ?_).mono ?_; (simp [*]); rintro e w' ⟨rfl, rfl⟩))
  all_goals
    go_wp2
    refine bodyPost_ret (v := .agg #[.bool false, .slice none 0 0, .float .f64 9218868437227405312, .int .i64 size, .int .i64 samples, .slice none 0 0]) (by simp [results, Ybaz.results6, go_sem]) rfl ⟨rfl, ?_⟩
    repeat (first | exact Below.refl _ _ | refine Below.drew ?_ | refine Below.alloc ?_ (by first | (simp; done) | (simp; omega)) _)

end Go.Proofs.YbulkbjwiGreatFmt
