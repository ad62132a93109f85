/-
  LawS3037AChain: THE WALK.
-/
import Derived.Test.YbulkbjwiLink
namespace Go.Proofs.Ybulkbjwi
open Go.RowKit

/-- The sign bit stands. -/
def top (x : Int) : Bool := decide (9223372036854775808 ≤ x)

set_option maxHeartbeats 4000000 in
theorem chain_walk (a0 : Nat) (b off len cap : Nat) (F : Nat → Nat) (a2 : Int) (w : World) (w0 : a0 < 18446744073709551616) (hF : ∀ i, i < len → F i < 18446744073709551616)
    (hl : len ≤ 1024) (h20 : 0 ≤ a2) (h21 : a2 ≤ 255) (hbB : b < w.heap.size) (hcell : ∀ i, i < len → w.cell? ⟨b, off + i, none⟩ = some (.float .f64 (F i))) :
    Calls Yba.prog 4 #[.float .f64 a0, .slice (some ⟨b, off, none⟩) len cap, .int .u8 a2] w fun e w' => e = .returned (.bool true) ∧ Below w.heap.size w w' := by
  have k5 := f64bits
  have r0 := low_range a0
  have hlow : (((low a0).toNat : Nat) : Int) = low a0 := by omega
  have hno : decide ((1024 : Int) < (len : Int)) = false := by simp; omega
  go_enter Yba.func4, Yba.ntmps4
  go_wp2_with (first
      | (go_at_call 7; refine (storeM _ _ (.int .u64 0) _ _ ?_ ?_).mono ?_; (simp [go_sem]); (simp [go_sem]); rintro e w' ⟨rfl, rfl⟩)
      | (go_at_call 10; refine (abs_any a0 w0 _).mono ?_; rintro e w' ⟨rfl, rfl⟩))
  go_loopw [8, 10, 33] (fun m s i wr => ∃ (j : Nat) (x : Int), j ≤ len ∧ i = .int .i64 j ∧ m = .float .f64 (low x).toNat ∧ s = .bool (top x) ∧ 0 ≤ x ∧ x < 18446744073709551616 ∧
      wr.cell? ⟨w.heap.size, 2, none⟩ = some (.int .u64 x) ∧ wr.frozen? ⟨w.heap.size, 2, none⟩ = false ∧ Below w.heap.size w wr ∧ w.heap.size < wr.heap.size)
    (fun _ _ i _ => len - (intOf i).toNat)
  case atStart =>
    refine ⟨0, low a0, Nat.zero_le _, rfl, ?_, ?_, by omega, by omega, ?_, ?_, ?_, ?_⟩
    · simp [low_low]
    · simp [top]; omega
    · simp
    · simp [go_sem]
    · exact (Below.refl _ _).alloc (Nat.le_refl _) _
    · simp
  case round =>
    obtain ⟨j, x, hj, rfl, rfl, rfl, hx0, hx1, hc, hz, hb, hB⟩ := hrel
    by_cases hlt : j < len
    · have hcj : wr.cell? ⟨b, off + j, none⟩ = some (.float .f64 (F j)) := (hb.cell (p := ⟨b, off + j, none⟩) hbB).trans (hcell j hlt)
      have hFj := hF j hlt
      clear hcell hF
      generalize F j = c at hcj hFj
      have rx := low_range x
      have hlx : (((low x).toNat : Nat) : Int) = low x := by omega
      cases hk : ((j : Int) == a2 % ((len : Int) + 1))
      · cases hf : flt c (low x).toNat
        · have hf2 : (FloatKind.f64.format.order c (low x).toNat == some .lt) = false := hf
          go_wp2_with (first
            | (go_at_call 8; refine (lower_no c x _ 0 _ hx0 hx1 hc hf).mono ?_; rintro e w' ⟨rfl, rfl⟩)
            | (go_at_call 13; refine (cost_any x _ 0 _ hx0 hx1 hc).mono ?_; rintro e w' ⟨rfl, rfl⟩))
          go_roundw
          case rel => exact ⟨j + 1, x, by omega, by go_num, rfl, rfl, hx0, hx1, hc, hz, hb, hB⟩
          case measure => simp [intOf]; omega
        · have hf2 : (FloatKind.f64.format.order c (low x).toNat == some .lt) = true := hf
          cases ht : top x
          · have hx2 : x < 9223372036854775808 := by simp [top] at ht; omega
            have rc := low_range c
            have hlc : (((low c).toNat : Nat) : Int) = low c := by omega
            cases hs : top c
            · have hc2 : c < 9223372036854775808 := by simp [top] at hs; omega
              have hcc := low_small c (by omega) (by omega)
              go_wp2_with (first
                | (go_at_call 8; refine (lower_yes c x _ 0 _ hx0 hx2 hc hz hf).mono ?_; rintro e w' ⟨rfl, rfl⟩)
                | (go_at_call 10; refine (abs_any c hFj _).mono ?_; rintro e w' ⟨rfl, rfl⟩)
                | (go_at_call 13; refine (cost_any c _ 0 _ (by omega) (by omega) ?_).mono ?_; (simp [go_sem, hc]); rintro e w' ⟨rfl, rfl⟩))
              go_roundw
              case rel => exact ⟨j + 1, c, by omega, by go_num, by rw [hcc]; simp, by simp [hs], by omega, by omega, by simp [go_sem, hc], by simp [go_sem, hz], (hb.setCell (Nat.le_refl _) _).drew, by simpa [World.setCell] using hB⟩
              case measure => simp [intOf]; omega
            · have hc2 : 9223372036854775808 ≤ c := by simp [top] at hs; omega
              go_wp2_with (first
                | (go_at_call 8; refine (lower_yes c x _ 0 _ hx0 hx2 hc hz hf).mono ?_; rintro e w' ⟨rfl, rfl⟩)
                | (go_at_call 10; refine (abs_any c hFj _).mono ?_; rintro e w' ⟨rfl, rfl⟩)
                | (go_at_call 13; refine (cost_any c _ 0 _ (by omega) (by omega) ?_).mono ?_; (simp [go_sem, hc]); rintro e w' ⟨rfl, rfl⟩))
              go_roundw
              case rel => exact ⟨j + 1, c, by omega, by go_num, rfl, by simp [hs], by omega, by omega, by simp [go_sem, hc], by simp [go_sem, hz], (hb.setCell (Nat.le_refl _) _).drew, by simpa [World.setCell] using hB⟩
              case measure => simp [intOf]; omega
          · have hx2 : 9223372036854775808 ≤ x := by simpa [top] using ht
            go_wp2_with (first
              | (go_at_call 8; refine (lower_sealed c x _ 0 _ hx2 hx1 hc hf).mono ?_; rintro e w' ⟨rfl, n, rfl⟩)
              | (go_at_call 13; refine (cost_any x _ 0 _ hx0 hx1 ?_).mono ?_; (simpa [go_sem] using hc); rintro e w' ⟨rfl, rfl⟩))
            go_roundw
            case rel => exact ⟨j + 1, x, by omega, by go_num, rfl, by simp [ht], hx0, hx1, by simpa [go_sem] using hc, by simpa [go_sem] using hz, below_drewN hb _, by simpa using hB⟩
            case measure => simp [intOf]; omega
      · cases ht : top x
        · have hx2 : x < 9223372036854775808 := by simp [top] at ht; omega
          have hll : low (low x + 9223372036854775808) = low x := by unfold low; omega
          have hto : top (low x + 9223372036854775808) = true := by simp [top]; omega
          cases hf : flt c (low x).toNat
          · have hf2 : (FloatKind.f64.format.order c (low x).toNat == some .lt) = false := hf
            have hf3 : flt c (low (low x + 9223372036854775808)).toNat = false := by rw [hll]; exact hf
            go_wp2_with (first
              | (go_at_call 12; refine (seal_now x _ 0 _ hx0 hx2 hc hz).mono ?_; rintro e w' ⟨rfl, rfl⟩)
              | (go_at_call 8; refine (lower_no c (low x + 9223372036854775808) _ 0 _ (by omega) (by omega) ?_ hf3).mono ?_; (simp [go_sem, hc]); rintro e w' ⟨rfl, rfl⟩)
              | (go_at_call 13; refine (cost_any (low x + 9223372036854775808) _ 0 _ (by omega) (by omega) ?_).mono ?_; (simp [go_sem, hc]); rintro e w' ⟨rfl, rfl⟩))
            go_roundw
            case rel => exact ⟨j + 1, low x + 9223372036854775808, by omega, by go_num, by rw [hll], by rw [hto], by omega, by omega, by simp [go_sem, hc], by simp [go_sem, hz], hb.setCell (Nat.le_refl _) _, by simpa [World.setCell] using hB⟩
            case measure => simp [intOf]; omega
          · have hf2 : (FloatKind.f64.format.order c (low x).toNat == some .lt) = true := hf
            have hf3 : flt c (low (low x + 9223372036854775808)).toNat = true := by rw [hll]; exact hf
            go_wp2_with (first
              | (go_at_call 12; refine (seal_now x _ 0 _ hx0 hx2 hc hz).mono ?_; rintro e w' ⟨rfl, rfl⟩)
              | (go_at_call 8; refine (lower_sealed c (low x + 9223372036854775808) _ 0 _ (by omega) (by omega) ?_ hf3).mono ?_; (simp [go_sem, hc]); rintro e w' ⟨rfl, n, rfl⟩)
              | (go_at_call 13; refine (cost_any (low x + 9223372036854775808) _ 0 _ (by omega) (by omega) ?_).mono ?_; (simp [go_sem, hc]); rintro e w' ⟨rfl, rfl⟩))
            go_roundw
            case rel => exact ⟨j + 1, low x + 9223372036854775808, by omega, by go_num, by rw [hll], by rw [hto], by omega, by omega, by simp [go_sem, hc], by simp [go_sem, hz], below_drewN (hb.setCell (Nat.le_refl _) _) _, by simpa [World.setCell] using hB⟩
            case measure => simp [intOf]; omega
        · have hx2 : 9223372036854775808 ≤ x := by simpa [top] using ht
          cases hf : flt c (low x).toNat
          · have hf2 : (FloatKind.f64.format.order c (low x).toNat == some .lt) = false := hf
            go_wp2_with (first
              | (go_at_call 12; refine (seal_done x _ 0 _ hx2 hx1 hc).mono ?_; rintro e w' ⟨rfl, rfl⟩)
              | (go_at_call 8; refine (lower_no c x _ 0 _ hx0 hx1 hc hf).mono ?_; rintro e w' ⟨rfl, rfl⟩)
              | (go_at_call 13; refine (cost_any x _ 0 _ hx0 hx1 hc).mono ?_; rintro e w' ⟨rfl, rfl⟩))
            go_roundw
            case rel => exact ⟨j + 1, x, by omega, by go_num, rfl, by simp [ht], hx0, hx1, hc, hz, hb, hB⟩
            case measure => simp [intOf]; omega
          · have hf2 : (FloatKind.f64.format.order c (low x).toNat == some .lt) = true := hf
            go_wp2_with (first
              | (go_at_call 12; refine (seal_done x _ 0 _ hx2 hx1 hc).mono ?_; rintro e w' ⟨rfl, rfl⟩)
              | (go_at_call 8; refine (lower_sealed c x _ 0 _ hx2 hx1 hc hf).mono ?_; rintro e w' ⟨rfl, n, rfl⟩)
              | (go_at_call 13; refine (cost_any x _ 0 _ hx0 hx1 ?_).mono ?_; (simpa [go_sem] using hc); rintro e w' ⟨rfl, rfl⟩))
            go_roundw
            case rel => exact ⟨j + 1, x, by omega, by go_num, rfl, by simp [ht], hx0, hx1, by simpa [go_sem] using hc, by simpa [go_sem] using hz, below_drewN hb _, by simpa using hB⟩
            case measure => simp [intOf]; omega
    · go_wp2
      go_ret
      exact ⟨rfl, hb⟩

end Go.Proofs.Ybulkbjwi
