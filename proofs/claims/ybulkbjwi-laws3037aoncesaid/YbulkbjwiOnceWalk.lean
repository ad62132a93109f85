/-
  LawS3037AOnce: THE WALK, a case each.
-/
import Derived.Test.YbulkbjwiLink
namespace Go.Proofs.Ybulkbjwi
open Go.RowKit

set_option maxHeartbeats 1000000 in
theorem walk_F1 (a0 a1 : Nat) (a3 a4 : Int) (w0 : a0 < 18446744073709551616) (hf : flt a1 (low a0).toNat = false) (w : World) :
    Calls Yba.prog 3 #[.float .f64 a0, .float .f64 a1, .bool false, .int .u32 a3, .int .u32 a4] w fun e w' => e = .returned (.bool true) ∧ Grown w w' := by
  have k5 := f64bits
  have hf2 : (FloatKind.f64.format.order a1 (low a0).toNat == some .lt) = false := hf
  go_enter Yba.func3, Yba.ntmps3
  go_wp2_with (first
      | (go_at_call 6; refine (storeM32 _ _ (.int .u32 0) _ _ ?_ ?_).mono ?_; (simp [go_sem]); (simp [go_sem]); rintro e w' ⟨rfl, rfl⟩)
      | (go_at_call 7; refine (storeM _ _ (.int .u64 0) _ _ ?_ ?_).mono ?_; (simp [go_sem]); (simp [go_sem]); rintro e w' ⟨rfl, rfl⟩)
      | (go_at_call 8; refine (lower_no a1 a0 _ 0 _ (by omega) (by omega) ?_ hf).mono ?_; (simp [go_sem]); rintro e w' ⟨rfl, rfl⟩)
      | (go_at_call 9; refine (loadM32 _ _ a4 _ ?_).mono ?_; (simp [go_sem]); rintro e w' ⟨rfl, rfl⟩)
      | (go_at_call 11; refine (loadM _ _ (a0) _ ?_).mono ?_; (simp [go_sem]); rintro e w' ⟨rfl, rfl⟩)
      | (go_at_call 10; refine (abs_any a0 w0 _).mono ?_; rintro e w' ⟨rfl, rfl⟩))
  go_ret
  exact ⟨rfl, by repeat (first | exact Grown.refl _ | apply Grown.drew | apply Grown.alloc)⟩

set_option maxHeartbeats 1000000 in
theorem walk_F2 (a0 a1 : Nat) (a3 a4 : Int) (w0 : a0 < 18446744073709551616) (hs : 9223372036854775808 ≤ a0) (hf : flt a1 (low a0).toNat = true) (w : World) :
    Calls Yba.prog 3 #[.float .f64 a0, .float .f64 a1, .bool false, .int .u32 a3, .int .u32 a4] w fun e w' => e = .returned (.bool true) ∧ Grown w w' := by
  have k5 := f64bits
  have hf2 : (FloatKind.f64.format.order a1 (low a0).toNat == some .lt) = true := hf
  go_enter Yba.func3, Yba.ntmps3
  go_wp2_with (first
      | (go_at_call 6; refine (storeM32 _ _ (.int .u32 0) _ _ ?_ ?_).mono ?_; (simp [go_sem]); (simp [go_sem]); rintro e w' ⟨rfl, rfl⟩)
      | (go_at_call 7; refine (storeM _ _ (.int .u64 0) _ _ ?_ ?_).mono ?_; (simp [go_sem]); (simp [go_sem]); rintro e w' ⟨rfl, rfl⟩)
      | (go_at_call 8; refine (lower_sealed a1 a0 _ 0 _ (by omega) (by omega) ?_ hf).mono ?_; (simp [go_sem]); rintro e w' ⟨rfl, n, rfl⟩)
      | (go_at_call 9; refine (loadM32 _ _ a4 _ ?_).mono ?_; (simp [go_sem]); rintro e w' ⟨rfl, rfl⟩)
      | (go_at_call 11; refine (loadM _ _ (a0) _ ?_).mono ?_; (simp [go_sem]); rintro e w' ⟨rfl, rfl⟩)
      | (go_at_call 10; refine (abs_any a0 w0 _).mono ?_; rintro e w' ⟨rfl, rfl⟩))
  go_ret
  exact ⟨rfl, by repeat (first | exact Grown.refl _ | apply Grown.drew | apply Grown.alloc)⟩

set_option maxHeartbeats 1000000 in
theorem walk_F3 (a0 a1 : Nat) (a3 a4 : Int) (w0 : a0 < 18446744073709551616) (hs : a0 < 9223372036854775808) (hf : flt a1 (low a0).toNat = true) (w : World) :
    Calls Yba.prog 3 #[.float .f64 a0, .float .f64 a1, .bool false, .int .u32 a3, .int .u32 a4] w fun e w' => e = .returned (.bool true) ∧ Grown w w' := by
  have k5 := f64bits
  have hf2 : (FloatKind.f64.format.order a1 (low a0).toNat == some .lt) = true := hf
  go_enter Yba.func3, Yba.ntmps3
  go_wp2_with (first
      | (go_at_call 6; refine (storeM32 _ _ (.int .u32 0) _ _ ?_ ?_).mono ?_; (simp [go_sem]); (simp [go_sem]); rintro e w' ⟨rfl, rfl⟩)
      | (go_at_call 7; refine (storeM _ _ (.int .u64 0) _ _ ?_ ?_).mono ?_; (simp [go_sem]); (simp [go_sem]); rintro e w' ⟨rfl, rfl⟩)
      | (go_at_call 8; refine (lower_yes a1 a0 _ 0 _ (by omega) (by omega) ?_ ?_ hf).mono ?_; (simp [go_sem]); (simp [go_sem]); rintro e w' ⟨rfl, rfl⟩)
      | (go_at_call 9; refine (loadM32 _ _ a4 _ ?_).mono ?_; (simp [go_sem]); rintro e w' ⟨rfl, rfl⟩)
      | (go_at_call 11; refine (loadM _ _ (a1) _ ?_).mono ?_; (simp [go_sem]); rintro e w' ⟨rfl, rfl⟩)
      | (go_at_call 10; refine (abs_any a0 w0 _).mono ?_; rintro e w' ⟨rfl, rfl⟩))
  go_ret
  exact ⟨rfl, by repeat (first | exact Grown.refl _ | apply Grown.drew | apply Grown.alloc)⟩

set_option maxHeartbeats 1000000 in
theorem walk_T1 (a0 a1 : Nat) (a3 a4 : Int) (w0 : a0 < 18446744073709551616) (hf : flt a1 (low a0).toNat = false) (w : World) :
    Calls Yba.prog 3 #[.float .f64 a0, .float .f64 a1, .bool true, .int .u32 a3, .int .u32 a4] w fun e w' => e = .returned (.bool true) ∧ Grown w w' := by
  have k5 := f64bits
  have k6 := bits_or_top a0 (by omega) (by omega)
  have hr := low_range a0
  have hl : low (low a0 + 9223372036854775808) = low a0 := by unfold low; omega
  have hg : flt a1 (low (low a0 + 9223372036854775808)).toNat = false := by rw [hl]; exact hf
  have hf2 : (FloatKind.f64.format.order a1 (low a0).toNat == some .lt) = false := hf
  go_enter Yba.func3, Yba.ntmps3
  go_wp2_with (first
      | (go_at_call 6; refine (storeM32 _ _ (.int .u32 0) _ _ ?_ ?_).mono ?_; (simp [go_sem]); (simp [go_sem]); rintro e w' ⟨rfl, rfl⟩)
      | (go_at_call 7; refine (storeM _ _ (.int .u64 0) _ _ ?_ ?_).mono ?_; (simp [go_sem]); (simp [go_sem]); rintro e w' ⟨rfl, rfl⟩)
      | (go_at_call 8; refine (lower_no a1 (low a0 + 9223372036854775808) _ 0 _ (by omega) (by omega) ?_ hg).mono ?_; (simp [go_sem]); rintro e w' ⟨rfl, rfl⟩)
      | (go_at_call 9; refine (loadM32 _ _ a4 _ ?_).mono ?_; (simp [go_sem]); rintro e w' ⟨rfl, rfl⟩)
      | (go_at_call 11; refine (loadM _ _ (low a0 + 9223372036854775808) _ ?_).mono ?_; (simp [go_sem]); rintro e w' ⟨rfl, rfl⟩)
      | (go_at_call 10; refine (abs_any a0 w0 _).mono ?_; rintro e w' ⟨rfl, rfl⟩))
  go_ret
  exact ⟨rfl, by repeat (first | exact Grown.refl _ | apply Grown.drew | apply Grown.alloc)⟩

set_option maxHeartbeats 1000000 in
theorem walk_T2 (a0 a1 : Nat) (a3 a4 : Int) (w0 : a0 < 18446744073709551616) (hf : flt a1 (low a0).toNat = true) (w : World) :
    Calls Yba.prog 3 #[.float .f64 a0, .float .f64 a1, .bool true, .int .u32 a3, .int .u32 a4] w fun e w' => e = .returned (.bool true) ∧ Grown w w' := by
  have k5 := f64bits
  have k6 := bits_or_top a0 (by omega) (by omega)
  have hr := low_range a0
  have hl : low (low a0 + 9223372036854775808) = low a0 := by unfold low; omega
  have hg : flt a1 (low (low a0 + 9223372036854775808)).toNat = true := by rw [hl]; exact hf
  have hf2 : (FloatKind.f64.format.order a1 (low a0).toNat == some .lt) = true := hf
  go_enter Yba.func3, Yba.ntmps3
  go_wp2_with (first
      | (go_at_call 6; refine (storeM32 _ _ (.int .u32 0) _ _ ?_ ?_).mono ?_; (simp [go_sem]); (simp [go_sem]); rintro e w' ⟨rfl, rfl⟩)
      | (go_at_call 7; refine (storeM _ _ (.int .u64 0) _ _ ?_ ?_).mono ?_; (simp [go_sem]); (simp [go_sem]); rintro e w' ⟨rfl, rfl⟩)
      | (go_at_call 8; refine (lower_sealed a1 (low a0 + 9223372036854775808) _ 0 _ (by omega) (by omega) ?_ hg).mono ?_; (simp [go_sem]); rintro e w' ⟨rfl, n, rfl⟩)
      | (go_at_call 9; refine (loadM32 _ _ a4 _ ?_).mono ?_; (simp [go_sem]); rintro e w' ⟨rfl, rfl⟩)
      | (go_at_call 11; refine (loadM _ _ (low a0 + 9223372036854775808) _ ?_).mono ?_; (simp [go_sem]); rintro e w' ⟨rfl, rfl⟩)
      | (go_at_call 10; refine (abs_any a0 w0 _).mono ?_; rintro e w' ⟨rfl, rfl⟩))
  go_ret
  exact ⟨rfl, by repeat (first | exact Grown.refl _ | apply Grown.drew | apply Grown.alloc)⟩
end Go.Proofs.Ybulkbjwi
