/-
  SEAT b3037aF: Check and point.
-/
import Derived.Test.YbulkbjwiFmtFloats
import Derived.Deep.QuietTactic
import Derived.BigQuiet
namespace Go.Proofs.YbulkbjwiFmt
open Go.RowKit
attribute [local go_sem ↓] Go.wp_at_zero Go.wp_at_succ

/-- A row of d finite floats that begins at a block's front. -/
def Pt (w : World) (b d : Nat) : Prop := ∀ j, j < d → ∃ x, w.cell? ⟨b, j, none⟩ = some (.float .f64 x) ∧ finB x = false

set_option maxRecDepth 100000 in
set_option maxHeartbeats 1000000 in
theorem check_any (T AX d cap b cp : Nat) (w : World) (h : Axes w T AX d cap) (hd : d ≤ 3) (hp : Pt w b d) :
    Calls Ybaf.prog 25 #[.pointer (some ⟨T, 0, none⟩), .slice (some ⟨b, 0, none⟩) d cp] w fun e w' => e = .returned .nilIface ∧ ∃ n, w' = w.drewN n := by
  have h0 := h.ax
  have o := ord00
  go_enter Ybaf.func25, Ybaf.ntmps25
  go_wp2_with fail
  go_loopw [29] (fun i wr => ∃ j n : Nat, j ≤ d ∧ i = .int .i64 j ∧ wr = w.drewN n) (fun i _ => d - (intOf i).toNat)
  case atStart => exact ⟨0, 0, by omega, rfl, rfl⟩
  case round =>
    obtain ⟨j, n, hj, rfl, rfl⟩ := hrel
    by_cases hlt : j < d
    · obtain ⟨z0, z1, z2⟩ := h.z j hlt
      obtain ⟨x, hx, hfin⟩ := hp j hlt
      have jd : (j : Int) < (d : Int) := by omega
      unfold finB at hfin
      obtain ⟨f1, f2⟩ : (FloatKind.f64.format.order x x != some .eq) = false ∧ (FloatKind.f64.format.order (bits .andNot .u64 x 9223372036854775808).toNat 9218868437227405311 == some .gt) = false := by simpa using hfin
      clear hfin
      go_wp2_with (first
        | (go_at_call 38; refine (isNaN_any x _).mono ?_; rintro e w' ⟨rfl, rfl⟩; simp only [f1])
        | (go_at_call 23; refine (isInf_zero x _).mono ?_; rintro e w' ⟨rfl, rfl⟩; simp only [f2]))
      go_quiet (fail)
      go_wp2
      exact ⟨⟨j + 1, _, by omega, by go_num, rfl⟩, by simp [intOf]; omega⟩
    · go_wp2
      go_ret
      exact ⟨rfl, n, rfl⟩

set_option maxRecDepth 100000 in
theorem point_in (T AX d cap s c o : Nat) (w : World) (h : Axes w T AX d cap) (hd : d ≤ 2) :
    Calls Ybaf.prog 33 #[.pointer (some ⟨T, 0, none⟩), .int .u32 s, .pointer (some ⟨c, o, none⟩)] w fun e w' => e = .returned (.slice (some ⟨c, o + 2, none⟩) d d) ∧ w' = w := by
  have h0 := h.ax
  have dd : (d : Int) ≤ 2 := by omega
  go_enter Ybaf.func33, Ybaf.ntmps33
  go_wp2
  go_ret
  exact ⟨rfl, rfl⟩
set_option maxRecDepth 100000 in
theorem point_far (T AX cap s c o fp fc q cp : Nat) (w : World) (h : Axes w T AX 3 cap) (hs : s < 4096) (h1 : w.cell? ⟨T, 1026, none⟩ = some (.pointer (some ⟨fp, 0, none⟩))) (g1 : w.shape? fp = some (127, 1024))
    (h2 : w.cell? ⟨fp, s / 2048, none⟩ = some (.pointer (some ⟨fc, 0, none⟩))) (g2 : w.shape? fc = some (131, 2048)) (h3 : w.cell? ⟨fc, s % 2048, none⟩ = some (.slice (some ⟨q, 0, none⟩) 3 cp)) :
    Calls Ybaf.prog 33 #[.pointer (some ⟨T, 0, none⟩), .int .u32 s, .pointer (some ⟨c, o, none⟩)] w fun e w' => e = .returned (.slice (some ⟨q, 0, none⟩) 3 cp) ∧ w' = w := by
  have h0 := h.ax
  generalize hi : s % 2048 = i at *
  go_enter Ybaf.func33, Ybaf.ntmps33
  go_wp2_with (go_at_call 47; refine (atFar T 1026 fp fc s w hs h1 g1 h2 g2).mono ?_; rintro e w' ⟨rfl, rfl⟩; rw [hi])
  go_ret
  exact ⟨rfl, rfl⟩
end Go.Proofs.YbulkbjwiFmt
