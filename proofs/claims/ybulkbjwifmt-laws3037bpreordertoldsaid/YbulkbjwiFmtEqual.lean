/-
  SEAT b3037aF: slices.Equal and slices.Index at []uint32, as the laws call them.
-/
import Derived.Test.YbulkbjwiFmtSeq
namespace Go.Proofs.YbulkbjwiFmt
open Go.RowKit
attribute [local go_sem ↓] Go.wp_at_zero Go.wp_at_succ

set_option maxRecDepth 100000 in
theorem equal_zero (a1 a2 : Option Addr) (c1 c2 : Nat) (w : World) : Calls Ybaf.prog 10 #[.slice a1 0 c1, .slice a2 0 c2] w fun e w' => e = .returned (.bool true) ∧ ∃ k, w' = w.drewN k := by
  go_enter Ybaf.func10, Ybaf.ntmps10
  go_wp2_with fail
  refine wp_loop_rounds 1 ?_; rw [rounds_succ]
  go_wp2
  go_ret
  exact ⟨rfl, 0, rfl⟩

set_option maxRecDepth 100000 in
set_option maxHeartbeats 1000000 in
theorem equal_row (g1 g2 n c1 c2 : Nat) (f : Nat → Nat) (w : World) (hn : n ≤ 1000) (h1 : ∀ j, j < n → w.cell? ⟨g1, j, none⟩ = some (.int .u32 (f j))) (h2 : ∀ j, j < n → w.cell? ⟨g2, j, none⟩ = some (.int .u32 (f j))) :
    Calls Ybaf.prog 10 #[.slice (some ⟨g1, 0, none⟩) n c1, .slice (some ⟨g2, 0, none⟩) n c2] w fun e w' => e = .returned (.bool true) ∧ ∃ k, w' = w.drewN k := by
  go_enter Ybaf.func10, Ybaf.ntmps10
  go_wp2_with fail
  go_loopw [13] (fun i wr => ∃ j k : Nat, j ≤ n ∧ i = .int .i64 j ∧ wr = w.drewN k) (fun i _ => n - (intOf i).toNat)
  case atStart => exact ⟨0, 0, by omega, rfl, rfl⟩
  case round =>
    obtain ⟨j, k, hj, rfl, rfl⟩ := hrel
    by_cases hlt : j < n
    · have z1 := h1 j hlt
      have z2 := h2 j hlt
      have jn : (j : Int) < (n : Int) := by omega
      clear h1 h2
      go_wp2_with fail
      go_quiet (fail)
      go_wp2
      exact ⟨⟨j + 1, _, by omega, by go_num, rfl⟩, by simp [intOf]; omega⟩
    · go_wp2
      go_ret
      exact ⟨rfl, k, rfl⟩

set_option maxRecDepth 100000 in
set_option maxHeartbeats 1000000 in
/-- The index of a slot among slots that differ. -/
theorem index_any (SB n i0 : Nat) (f : Nat → Nat) (w : World) (hn : n ≤ 1000) (hi : i0 < n) (hf : ∀ j, j < n → f j = f i0 → j = i0) (h1 : ∀ j, j < n → w.cell? ⟨SB, j, none⟩ = some (.int .u32 (f j))) :
    Calls Ybaf.prog 11 #[.slice (some ⟨SB, 0, none⟩) n n, .int .u32 (f i0)] w fun e w' => e = .returned (.int .i64 i0) ∧ w' = w := by
  go_enter Ybaf.func11, Ybaf.ntmps11
  go_wp2_with fail
  go_loop [8] (fun i => ∃ j : Nat, j ≤ i0 ∧ i = .int .i64 j) (fun i => n - (intOf i).toNat)
  case atStart => exact ⟨0, by omega, rfl⟩
  case round =>
    obtain ⟨j, hj, rfl⟩ := hrel
    have z1 := h1 j (by omega)
    have jn : (j : Int) < (n : Int) := by omega
    by_cases he : j = i0
    · subst he
      clear h1 hf
      go_wp2
      go_ret
      exact ⟨rfl, rfl⟩
    · have hne : ((f i0 : Nat) : Int) ≠ ((f j : Nat) : Int) := by
        intro e
        exact he (hf j (by omega) (by omega))
      have hne2 : decide (((f i0 : Nat) : Int) = ((f j : Nat) : Int)) = false := by simpa using hne
      clear h1 hf
      go_wp2
      exact ⟨⟨j + 1, by omega, by go_num⟩, by simp [intOf]; omega⟩
end Go.Proofs.YbulkbjwiFmt
