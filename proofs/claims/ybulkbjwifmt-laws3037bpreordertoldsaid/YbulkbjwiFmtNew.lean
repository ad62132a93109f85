/-
  SEAT b3037aF: New, walked: an empty tree over d zero axes.
-/
import Derived.Test.YbulkbjwiFmtInsert
namespace Go.Proofs.YbulkbjwiFmt
open Go.RowKit
attribute [local go_sem ↓] Go.wp_at_zero Go.wp_at_succ
attribute [local go_sem] run_store_float_ok okAt_setCell okAt_alloc okAt_drew okAt_new

noncomputable def zc53 : Array Value := match Ybaf.prog.info? 53 with | some i => (match i.zero with | some (.agg c) => c | _ => #[]) | none => #[]
theorem zv53 (w : World) : (zeroValue 53).run Ybaf.prog w = .ok (.agg zc53) w := by kernel_rfl
theorem size53 : zc53.size = 2050 := by kernel_rfl
theorem zc53_1 : zc53[1]? = some (.int .u32 0) := by kernel_rfl
theorem zc53_2 : zc53[2]? = some (.pointer none) := by kernel_rfl
theorem zc53_1026 : zc53[1026]? = some (.pointer none) := by kernel_rfl
attribute [local go_sem] zv53

theorem tree_new {w w2 : World} {B AX d cap mA : Nat} (hB : B ≤ w.heap.size) (hb : Below w.heap.size w w2) (hd0 : 0 < d) (hd3 : d ≤ 3) (hsA : w2.shape? AX = some (94, mA)) (hcells : ∀ j, j < d * 3 → w2.cell? ⟨AX, j, none⟩ = some (.float .f64 0)) :
    Mem (w2.alloc (.cells (zc53.setIfInBounds 0 (.slice (some ⟨AX, 0, none⟩) d cap)) 53)) B w2.heap.size AX d cap none (fun _ => none) none (fun _ => none) .nil := by
  have hf : Fr (fun _ => False) w2 (w2.alloc (.cells (zc53.setIfInBounds 0 (.slice (some ⟨AX, 0, none⟩) d cap)) 53)) := Fr.alloc _ _ _
  have hs := hb.size
  have hx : ∀ j v, j ≠ 0 → zc53[j]? = some v → (w2.alloc (.cells (zc53.setIfInBounds 0 (.slice (some ⟨AX, 0, none⟩) d cap)) 53)).cell? ⟨w2.heap.size, j, none⟩ = some v := by
    intro j v hj hv
    refine cellNew _ _ _ _ _ ?_
    rw [Array.getElem?_setIfInBounds_ne (by omega)]; exact hv
  have hax : ∀ j, j < d * 3 → (w2.alloc (.cells (zc53.setIfInBounds 0 (.slice (some ⟨AX, 0, none⟩) d cap)) 53)).cell? ⟨AX, j, none⟩ = some (.float .f64 0) := fun j hj => hf.cell (hcells j hj) (fun h => h)
  refine ⟨hd0, hd3, ?_, ⟨mA, (hf.shape AX (shape_lt hsA)).trans hsA⟩, by omega, by simp, by simp, by simp, by simp, ⟨?_, fun i hi => ⟨hax _ (by omega), hax _ (by omega), hax _ (by omega)⟩⟩, ⟨hx 2 _ (by decide) zc53_2, frozNew _ _ _ _, by simp, by simp, by simp, by simp⟩, ⟨hx 1026 _ (by decide) zc53_1026, frozNew _ _ _ _, by simp, by simp, by simp, by simp⟩, (fun _ _ _ h => nomatch h), (fun _ _ _ h => nomatch h), by simp, by simp, by simp, frozNew _ _ _ _, ?_, by simp [BT.slots], by simp [BT.slots], by simp⟩
  · rw [shapeNew]; simp [size53]
  · refine cellNew _ _ _ _ _ ?_
    rw [Array.getElem?_setIfInBounds_self_of_lt (by rw [size53]; decide)]
  · unfold IsT; exact hx 1 _ (by decide) zc53_1

set_option maxRecDepth 100000 in
set_option maxHeartbeats 2000000 in
theorem new_any (A0 d c B : Nat) (w : World) (hB : B ≤ w.heap.size) (hd0 : 0 < d) (hd3 : d ≤ 3) (hz : ∀ j, j < d * 3 → w.cell? ⟨A0, j, none⟩ = some (.float .f64 0)) :
    Calls Ybaf.prog 14 #[.slice (some ⟨A0, 0, none⟩) d c] w fun e w' => ∃ T AX cap, e = .returned (.tuple #[.pointer (some ⟨T, 0, none⟩), .nilIface]) ∧ Mem w' B T AX d cap none (fun _ => none) none (fun _ => none) .nil ∧ Below w.heap.size w w' := by
  have o := ord00
  have l1 : decide ((d : Int) < 1) = false := by simp; omega
  have l2 : decide ((16 : Int) < (d : Int)) = false := by simp; omega
  go_enter Ybaf.func14, Ybaf.ntmps14
  go_wp2_with fail
  go_loopw [22] (fun i wr => ∃ j : Nat, j ≤ d ∧ i = .int .i64 j ∧ Below w.heap.size w wr) (fun i _ => d - (intOf i).toNat)
  case atStart => exact ⟨0, by omega, rfl, Below.refl _ _⟩
  case round =>
    obtain ⟨j, hj, rfl, hb⟩ := hrel
    have hA0 : A0 < w.heap.size := World.block_lt_of_cell? _ _ (hz 0 (by omega))
    have hz' : ∀ j, j < d * 3 → wr.cell? ⟨A0, j, none⟩ = some (.float .f64 0) := fun j hj => (hb.cell (p := ⟨A0, j, none⟩) hA0).trans (hz j hj)
    by_cases hlt : j < d
    · have z0 := hz' (j * 3) (by omega)
      have z1 := hz' (j * 3 + 1) (by omega)
      have z2 := hz' (j * 3 + 2) (by omega)
      have jd : (j : Int) < (d : Int) := by omega
      clear hz hz'
      go_wp2_with (go_at_call 23; refine (isInf_axis _).mono ?_; rintro e w' ⟨rfl, rfl⟩)
      go_roundw
      case rel => exact ⟨j + 1, by omega, by go_num, hb.alloc (by have := hb.size; omega) _⟩
      case measure => simp [intOf]; omega
    · have hcl := clone_axes A0 d c wr hd3 hd0 hz'
      clear hz hz'
      go_wp2_with fail
      refine hcl.mono ?_
      rintro e w2 ⟨AX, cap, rfl, hge, ⟨mA, hsA⟩, hcells, hb2⟩
      go_wp2_with fail
      go_ret2
      refine ⟨w2.heap.size, AX, cap, rfl, ?_, ?_⟩
      · exact tree_new hB (hb.trans (hb2.mono hb.size)) hd0 hd3 hsA hcells
      · exact (hb.trans (hb2.mono hb.size)).alloc (by have := hb.size; have := hb2.size; omega) _
end Go.Proofs.YbulkbjwiFmt
