/-
  THE WALK OF (*tree).nodeList OVER A TREE WHOSE INDEX HOLDS NO NODE.
-/
import Derived.Test.YbulkbjwiGreatFmtNodes
import Derived.RangeFuncNested
import Derived.RangeFuncBound
import Derived.RangeFuncCalls
import Derived.RangeFuncLeaves
import Derived.Shelf.Abstract
import Derived.Shelf.RegionOpen
import Derived.WalkKit
import Derived.OwnWalkIn
import Derived.TacticsInMore
import Derived.LoopNIn
import Derived.LoopIn
namespace Go.Proofs.YbulkbjwiGreatFmt
open Go.RowKit Go.Shelf
attribute [local go_sem] Oper.semAt_some

theorem info124 : (Ybaz.prog.info? 124).map (fun i => (i.zero, i.size, i.bytes)) = some (some (.pointer none), 1, 8) := by kernel_rfl

/-- 'make([]*node, 0, c)'. -/
theorem make130 (c : Int) (h0 : 0 ≤ c) (h1 : c ≤ 1048576) (w : World) :
    (Instr.makeSlice 130 (.int .i64 0) (.int .i64 c)).run Ybaz.prog w = .ok (.slice (some ⟨w.heap.size, 0, none⟩) 0 c.toNat) (w.alloc (.cells (madeCells #[.pointer none] c.toNat) 124)) := by
  obtain ⟨i, hi, hz0, hz1, hz2⟩ := info_parts info124
  have := run_makeSlice (P := Ybaz.prog) w 130 124 i (.pointer none) Ybaz.underlying130 hi hz0 .i64 .i64 0 c (Int.le_refl _) h0 (by rw [hz1]; omega) (by rw [hz2]; omega) (by omega)
  rw [hz1, Nat.mul_one] at this
  exact this

theorem seq_none (n X Bx : Nat) (w : World) (hX : X < w.heap.size) (hB : Bx < w.heap.size) (hb : w.cell? ⟨Bx, 0, none⟩ = some (.pointer (some ⟨X, 0, none⟩))) (hr : w.cell? ⟨X, 1, none⟩ = some (.int .u32 0)) (n₀ : Nat) :
    SeqStopsK Fence.wide n Ybaz.prog 44 #[.pointer (some ⟨Bx, 0, none⟩)] (fun x : Empty => x.elim) (Below n₀) (fun xs => xs = []) (fun _ => False) 0 w := by
  intro l J Jx W hW hJ _ _ h0
  refine callsIn_wide.2 ((all1_none l X Bx W ((hW.cell (p := ⟨Bx, 0, none⟩) hB).trans hb) ((hW.cell (p := ⟨X, 1, none⟩) hX).trans hr)).mono ?_)
  rintro e W' ⟨rfl, hb'⟩
  refine ⟨⟨_, rfl⟩, .inl ⟨[], rfl, hJ [] W W' none h0 ⟨hb'.os, hb'.tape, hb'.output, hb'.size, fun k hk _ => hb'.block k hk⟩ (fun r e => by cases e)⟩⟩

set_option maxRecDepth 100000 in
set_option maxHeartbeats 2000000 in
theorem nodes_in (n R : Nat) (hn : 3 ≤ n) (size samples : Int) (keep : Bool) (sc : Value) (w : World) (h0 : 0 ≤ size) (h1 : size ≤ 1048576) (hR : R + 3 ≤ w.heap.size) (hm : Made R size samples keep w) :
    CallsIn Fence.wide n Ybaz.prog 16 #[.pointer (some ⟨R + 2, 0, none⟩), sc] w fun e w' => (∃ a c, e = .returned (.slice (some a) 0 c)) ∧ Below w.heap.size w w' := by
  obtain ⟨m1, m2, m3, m4, m5, m6, m7, m8⟩ := hm
  have hmk := make130 size h0 h1
  have hn1 : 1 ≤ n := by omega
  have t0 : R + 2 < w.heap.size := by omega
  have t1 : R + 2 < w.heap.size + 1 := by omega
  have t2 : R + 2 < w.heap.size + 1 + 1 := by omega
  refine callsIn_of_wp_marks Ybaz.func16 rfl trivial ?_ rfl
  simp only [Ybaz.ntmps16, List.size_toArray, List.length_cons, List.length_nil, Nat.reduceAdd, Nat.reduceSub, Array.replicate_succ, Array.replicate_zero, List.push_toArray, List.append_toArray, List.nil_append, List.cons_append]
  gi_wp2_with (first
    | (refine ⟨trivial, ?_⟩; gi_at_call 8; refine (callsIn_wide.2 (loadM (R + 2) 4104 size _ ?_)).mono ?_; (simp [go_sem, *]); rintro e w' ⟨rfl, rfl⟩)
    | (refine ⟨trivial, ?_⟩; gi_at_call 27; refine (callsIn_wide.2 (all_any _ _)).mono ?_; rintro e w' ⟨rfl, rfl⟩))
  have hB0 : Below w.heap.size w ((((w.alloc (.cells #[.pointer (some ⟨R + 2, 0, none⟩)] 22)).alloc (.cells (madeCells #[.pointer none] size.toNat) 124)).alloc (.cells #[.slice (some ⟨w.heap.size + 1, 0, none⟩) 0 size.toNat] 130)).alloc (.cells #[.pointer (some ⟨R + 1, 0, none⟩)] 32)) :=
    ((((Below.refl _ _).alloc (Nat.le_refl _) _).alloc (by simp) _).alloc (by simp; omega) _).alloc (by simp; omega) _
  refine wpIn_rangeFunc_ownF rfl hn1 (gf := 44) (lb := #[.pointer (some ⟨w.heap.size + 1 + 1 + 1, 0, none⟩)]) rfl trivial (enters_of Ybaz.func44 (by kernel_rfl) rfl)
    (seq_none (n - 1) (R + 1) (w.heap.size + 1 + 1 + 1) _ ?hX ?hB ?hb ?hr w.heap.size) belowK_t (belowK_b ?hle) (Below.refl _ _) (fun x => x.elim)
    (fun _ W => (W.cell? ⟨w.heap.size, 0, none⟩ = some (.pointer (some ⟨R + 2, 0, none⟩)) ∧ W.cell? ⟨w.heap.size + 1 + 1, 0, none⟩ = some (.slice (some ⟨w.heap.size + 1, 0, none⟩) 0 size.toNat)) ∧ Below w.heap.size w W)
    (fun _ _ _ => False)
    (OwnFrom.and (Own.from (fun s A B row hs hg hr => ⟨cell_kept hs.1 hg hr, cell_kept hs.2 hg hr⟩) _) (ownFrom_below (Nat.le_refl _) ?hle2))
    (fun _ _ _ _ _ hs _ _ => hs)
    ⟨⟨?hc1, ?hc2⟩, hB0⟩
    (fun x => x.elim) (fun _ x => x.elim) (fun _ _ x => x.elim) ?done (fun _ _ _ _ _ h => h.elim)
  case done =>
    rintro D ys W hD rfl ⟨⟨c1, c2⟩, hb⟩ hK
    have hsz := hb.size
    have hsD : D < W.heap.size := (Array.getElem?_eq_some_iff.1 hK).1
    have hsD2 : w.heap.size + 4 ≤ D := by simpa using hD
    have g1 : W.cell? ⟨R + 2, 0, none⟩ = some (.pointer (some ⟨R, 0, none⟩)) := (hb.cell (p := ⟨R + 2, 0, none⟩) t0).trans m1
    have g3 : W.cell? ⟨R + 2, 4098, none⟩ = some (.int .u32 0) := (hb.cell (p := ⟨R + 2, 4098, none⟩) t0).trans m3
    have g7 : W.cell? ⟨R, 12, none⟩ = some (.slice none 0 0) := (hb.cell (p := ⟨R, 12, none⟩) (by show R < w.heap.size; omega)).trans m7
    have u0 : R + 2 < W.heap.size := by omega
    have u1 : R < W.heap.size := by omega
    have u2 : w.heap.size < W.heap.size := by omega
    have u3 : w.heap.size + 1 + 1 < W.heap.size := by omega
    have u4 : w.heap.size < W.heap.size + 1 := by omega
    have u5 : w.heap.size + 1 + 1 < W.heap.size + 1 := by omega
    have u6 : R + 2 < W.heap.size + 1 := by omega
    have u7 : R < W.heap.size + 1 := by omega
    have u8 : w.heap.size + 1 + 1 < W.heap.size + 1 + 1 := by omega
    have hmf : ∀ (fn : Fn) (first cap : Array Value) (w : World), (Instr.makeFunc fn first cap).run Ybaz.prog w = .ok (.func fn first cap) w := fun _ _ _ _ => rfl
    have k169 : ∀ w, (Instr.makeSlice 169 (.int .i64 0) (.int .i64 0)).run Ybaz.prog w = .ok (.slice (some ⟨w.heap.size, 0, none⟩) 0 0) (w.alloc (.cells #[] 3)) := fun _ => by kernel_rfl
    have k95 : ∀ w, (Instr.makeSlice 95 (.int .i64 0) (.int .i64 0)).run Ybaz.prog w = .ok (.slice (some ⟨w.heap.size, 0, none⟩) 0 0) (w.alloc (.cells #[] 25)) := fun _ => by kernel_rfl
    have k26 : ∀ w, (Instr.makeSlice 26 (.int .i64 0) (.int .i64 0)).run Ybaz.prog w = .ok (.slice (some ⟨w.heap.size, 0, none⟩) 0 0) (w.alloc (.cells #[] 172)) := fun _ => by kernel_rfl
    clear hmk m1 m2 m3 m4 m5 m6 m7 m8 t0 t1 t2 hB0
    gi_wp2_with (first
      | (refine ⟨trivial, ?_⟩; gi_at_call 28; refine (callsIn_wide.2 (sort_none _ _ _ _)).mono ?_; rintro e w' ⟨rfl, rfl⟩)
      | (refine ⟨trivial, ?_⟩; gi_at_call 34; refine (callsIn_wide.2 (blen_zero (R + 2) 4098 _ ?_)).mono ?_; (simp [go_sem, *]); rintro e w' ⟨rfl, rfl⟩))
    refine wpIn_loop_rounds 1 ?_; rw [roundsIn_succ]
    gi_wp2
    refine wpIn_loop_rounds 1 ?_; rw [roundsIn_succ]
    gi_wp2
    have hK1 := (Below.heap_alloc _ (.cells #[] 3) D hsD).trans hK
    have hK2 := (Below.heap_alloc _ (.cells #[] 25) D (by simp; omega)).trans hK1
    have hK3 := (Below.heap_alloc _ (.cells #[] 172) D (by simp; omega)).trans hK2
    refine ⟨by simp, .inl ⟨_, _, rfl, run_takeDeferred hK3, ?_⟩⟩
    have hb3 := ((hb.alloc (by omega) (.cells #[] 3)).alloc (by simp; omega) (.cells #[] 25)).alloc (by simp; omega) (.cells #[] 172)
    exact ⟨_, results_tmp rfl _ _ _, ⟨_, _, rfl⟩, hb3.trans (belowK_b (w := w) (Nat.le_refl _) _ D _ _ (by omega) hK3 rfl rfl)⟩
  case hX => simp; omega
  case hB => simp
  case hb => simp [go_sem]
  case hr => exact (hB0.cell (p := ⟨R + 1, 1, none⟩) (by show R + 1 < w.heap.size; omega)).trans m8
  case hle => simp; omega
  case hle2 => simp; omega
  case hc1 => simp [go_sem]
  case hc2 => simp [go_sem]

end Go.Proofs.YbulkbjwiGreatFmt
