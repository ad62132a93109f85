/-
  THE WALK OF (*tree).result AT NO GOAL, KeepTree on, over a tree whose index holds no node.
-/
import Derived.Test.YbulkbjwiGreatFmtResult
import Derived.Test.YbulkbjwiGreatFmtNodeList
namespace Go.Proofs.YbulkbjwiGreatFmt
open Go.RowKit
attribute [local go_sem ↓] Go.wp_at_zero Go.wp_at_succ
attribute [local go_sem] run_store_float

theorem Made.below {R : Nat} {size samples : Int} {keep : Bool} {w w' : World} (h : Made R size samples keep w) {B : Nat} (hb : Below B w w') (hR : R + 3 ≤ B) : Made R size samples keep w' := by
  obtain ⟨m1, m2, m3, m4, m5, m6, m7, m8⟩ := h
  exact ⟨(hb.cell (p := ⟨R + 2, 0, none⟩) (by show R + 2 < B; omega)).trans m1, (hb.cell (p := ⟨R + 2, 1, none⟩) (by show R + 2 < B; omega)).trans m2, (hb.cell (p := ⟨R + 2, 4098, none⟩) (by show R + 2 < B; omega)).trans m3,
    (hb.cell (p := ⟨R + 2, 4104, none⟩) (by show R + 2 < B; omega)).trans m4, (hb.cell (p := ⟨R, 18, none⟩) (by show R < B; omega)).trans m5, (hb.cell (p := ⟨R, 10, none⟩) (by show R < B; omega)).trans m6,
    (hb.cell (p := ⟨R, 12, none⟩) (by show R < B; omega)).trans m7, (hb.cell (p := ⟨R + 1, 1, none⟩) (by show R + 1 < B; omega)).trans m8⟩

/-- nodeList, as a plain call. -/
theorem nodes_any (R : Nat) (size samples : Int) (keep : Bool) (sc : Value) (w : World) (h0 : 0 ≤ size) (h1 : size ≤ 1048576) (hR : R + 3 ≤ w.heap.size) (hm : Made R size samples keep w) :
    Calls Ybaz.prog 16 #[.pointer (some ⟨R + 2, 0, none⟩), sc] w fun e w' => (∃ a c, e = .returned (.slice (some a) 0 c)) ∧ Below w.heap.size w w' :=
  callsIn_wide.1 (nodes_in 3 R (Nat.le_refl _) size samples keep sc w h0 h1 hR hm)

/-- The call's own blocks behind a callee that keeps what lay. -/
theorem after3 {w w2 : World} {A B C : Array Value} {tA tB tC : TypeId} (hb : Below (((w.alloc (.cells A tA)).alloc (.cells B tB)).alloc (.cells C tC)).drew.heap.size (((w.alloc (.cells A tA)).alloc (.cells B tB)).alloc (.cells C tC)).drew w2) :
    (∀ j, w2.cell? ⟨w.heap.size, j, none⟩ = A[j]?) ∧ (∀ j, w2.frozen? ⟨w.heap.size, j, none⟩ = false) ∧ (∀ j, w2.cell? ⟨w.heap.size + 1, j, none⟩ = B[j]?) ∧ (∀ j, w2.frozen? ⟨w.heap.size + 1, j, none⟩ = false) ∧ w.heap.size + 3 ≤ w2.heap.size := by
  refine ⟨fun j => (hb.cell (p := ⟨w.heap.size, j, none⟩) (by simp; omega)).trans ?_, fun j => (hb.frozen (p := ⟨w.heap.size, j, none⟩) (by simp; omega)).trans ?_, fun j => (hb.cell (p := ⟨w.heap.size + 1, j, none⟩) (by simp)).trans ?_, fun j => (hb.frozen (p := ⟨w.heap.size + 1, j, none⟩) (by simp)).trans ?_, by simpa using hb.size⟩
  all_goals simp [go_sem]

set_option maxHeartbeats 2000000 in
theorem result_on (R : Nat) (size samples : Int) (w : World) (h0 : 0 ≤ size) (h1 : size ≤ 1048576) (hR : R + 3 ≤ w.heap.size) (hm : Made R size samples true w) :
    Calls Ybaz.prog 6 #[.pointer (some ⟨R + 2, 0, none⟩), .pointer none] w fun e w' =>
      (∃ a c, e = .returned (.agg #[.bool false, .slice none 0 0, .float .f64 9218868437227405312, .int .i64 size, .int .i64 samples, .slice (some a) 0 c])) ∧ Below w.heap.size w w' := by
  have hm0 := hm
  obtain ⟨m1, m2, m3, m4, m5, m6, m7, m8⟩ := hm
  have r0 : R < w.heap.size := by omega
  have r1 : R < w.heap.size + 1 := by omega
  have r2 : R < w.heap.size + 1 + 1 := by omega
  have t0 : R + 2 < w.heap.size := by omega
  have t1 : R + 2 < w.heap.size + 1 := by omega
  have t2 : R + 2 < w.heap.size + 1 + 1 := by omega
  have HM : Hid (Made R size samples true w) := hm0
  clear hm0
  go_enter Ybaz.func6, Ybaz.ntmps6
  go_wp2_with fail
  go_region_held3 (fun w' => w'.cell? ⟨R + 2, 0, none⟩ = some (.pointer (some ⟨R, 0, none⟩)) ∧ w'.cell? ⟨R + 2, 4104, none⟩ = some (.int .i64 size) ∧ w'.cell? ⟨R, 18, none⟩ = some (.int .i64 samples)) (go_keep)
    (first
      | (go_at_call 10; refine (inf_one _).mono ?_; rintro e w' ⟨rfl, rfl⟩)
      | (go_at_call 8; with_reducible refine (loadM (R + 2) 4104 size _ ?_).mono ?_; (simp [*]); rintro e w' ⟨rfl, rfl⟩)
      | (go_at_call 8; with_reducible refine (loadM R 18 samples _ ?_).mono ?_; (simp [*]); rintro e w' ⟨rfl, rfl⟩))
  all_goals
    go_wp2_with fail
    have hB0 : Below w.heap.size w (((w.alloc (.cells #[.bool false, .slice none 0 0, .float .f64 0, .int .i64 0, .int .i64 0, .slice none 0 0] 28)).alloc (.cells #[.bool false, .slice none 0 0, .float .f64 9218868437227405312, .int .i64 size, .int .i64 samples, .slice none 0 0] 28)).alloc
      (.cells #[.int .i64 0, .int .u32 0, .int .u32 0, .int .u32 0, .int .u32 0, .int .u32 0, .int .u32 0, .int .u32 0, .int .i64 0, .slice none 0 0, .float .f64 0, .slice none 0 0, .slice none 0 0, .slice none 0 0] 132)).drew :=
      ((((Below.refl _ _).alloc (Nat.le_refl _) _).alloc (by simp) _).alloc (by simp; omega) _).drew
    refine (nodes_any R size samples true _ _ h0 h1 ?_ (HM.out.below hB0 hR)).mono ?_
    · simp; omega
    rintro e w2 ⟨⟨a, c, rfl⟩, hb2⟩
    obtain ⟨q1, q2, q3, q4, q5⟩ := after3 hb2
    have hb := hB0.trans (hb2.mono (by simp; omega))
    clear hb2 hB0
    go_wp2
    refine bodyPost_ret (v := .agg #[.bool false, .slice none 0 0, .float .f64 9218868437227405312, .int .i64 size, .int .i64 samples, .slice (some a) 0 c]) ?_ rfl ⟨⟨_, _, rfl⟩, ?_⟩
    · simp [results, Ybaz.results6, go_sem, q1]
    · exact (((((((hb.setCell (p := ⟨w.heap.size + 1, 5, none⟩) (Nat.le_succ _) _).setCell (p := ⟨w.heap.size, 0, none⟩) (Nat.le_refl _) _).setCell (p := ⟨w.heap.size, 1, none⟩) (Nat.le_refl _) _).setCell (p := ⟨w.heap.size, 2, none⟩) (Nat.le_refl _) _).setCell (p := ⟨w.heap.size, 3, none⟩) (Nat.le_refl _) _).setCell (p := ⟨w.heap.size, 4, none⟩) (Nat.le_refl _) _).setCell (p := ⟨w.heap.size, 5, none⟩) (Nat.le_refl _) _)

end Go.Proofs.YbulkbjwiGreatFmt
