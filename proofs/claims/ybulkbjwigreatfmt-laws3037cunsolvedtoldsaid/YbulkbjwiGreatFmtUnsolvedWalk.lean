/-
  LawS3037CUnsolved: THE WALK.
-/
import Derived.Test.YbulkbjwiGreatFmtResult
namespace Go.Proofs.YbulkbjwiGreatFmt
open Go.RowKit
attribute [local go_sem] run_store_float

theorem Made.below {R : Nat} {size samples : Int} {keep : Bool} {w w' : World} (h : Made R size samples keep w) {B : Nat} (hb : Below B w w') (hR : R + 3 ≤ B) : Made R size samples keep w' := by
  obtain ⟨m1, m2, m3, m4, m5, m6, m7, m8⟩ := h
  exact ⟨(hb.cell (p := ⟨R + 2, 0, none⟩) (by show R + 2 < B; omega)).trans m1, (hb.cell (p := ⟨R + 2, 1, none⟩) (by show R + 2 < B; omega)).trans m2, (hb.cell (p := ⟨R + 2, 4098, none⟩) (by show R + 2 < B; omega)).trans m3,
    (hb.cell (p := ⟨R + 2, 4104, none⟩) (by show R + 2 < B; omega)).trans m4, (hb.cell (p := ⟨R, 18, none⟩) (by show R < B; omega)).trans m5, (hb.cell (p := ⟨R, 10, none⟩) (by show R < B; omega)).trans m6,
    (hb.cell (p := ⟨R, 12, none⟩) (by show R < B; omega)).trans m7, (hb.cell (p := ⟨R + 1, 1, none⟩) (by show R + 1 < B; omega)).trans m8⟩

set_option maxRecDepth 100000 in
set_option maxHeartbeats 2000000 in
theorem unsolved_walk (size samples : Int) (w : World) :
    Calls Ybaz.prog 3 #[.int .i64 size, .int .i64 samples] w fun e w' => e = .returned (.bool true) ∧ Below w.heap.size w w' := by
  have e1 := fun (w : World) => Lib.run_eql_slice_nil (P := Ybaz.prog) w 24 _ none 0 0 0 0 Ybaz.underlying24
  have e2 := fun (w : World) => Lib.run_eql_slice_nil (P := Ybaz.prog) w 26 _ none 0 0 0 0 Ybaz.underlying26
  go_enter Ybaz.func3, Ybaz.ntmps3
  go_wp2_with fail
  refine (mk_any size samples false w).mono ?_
  rintro e w1 ⟨rfl, hb1, hsz, hm⟩
  go_wp2_with fail
  refine (result_off w.heap.size size samples w1 (by omega) hm).mono ?_
  rintro e w2 ⟨rfl, hb2⟩
  have hm2 := hm.below hb2 (by omega)
  have hs2 := hb2.size
  have hb := hb1.trans (hb2.mono (by omega))
  clear hm hb1 hb2
  obtain ⟨m1, m2, m3, m4, m5, m6, m7, m8⟩ := hm2
  have r0 : w.heap.size < w2.heap.size := by omega
  have t0 : w.heap.size + 2 < w2.heap.size := by omega
  clear hsz hs2
  go_wp2_with (first
    | (go_at_call 7; refine (isInf_yes _).mono ?_; rintro e w' ⟨rfl, rfl⟩)
    | (go_at_call 8; with_reducible refine (loadM (w.heap.size + 2) 4104 size _ ?_).mono ?_; (simp [go_sem, *]); rintro e w' ⟨rfl, rfl⟩)
    | (go_at_call 8; with_reducible refine (loadM w.heap.size 18 samples _ ?_).mono ?_; (simp [go_sem, *]); rintro e w' ⟨rfl, rfl⟩))
  go_ret
  exact ⟨rfl, hb.alloc (by omega) _⟩

end Go.Proofs.YbulkbjwiGreatFmt
