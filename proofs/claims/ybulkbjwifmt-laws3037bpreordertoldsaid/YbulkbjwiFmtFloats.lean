/-
  SEAT b3037aF: FLOATS: an int8 as a float64 is finite; the zero Axis's methods.
-/
import Derived.Test.YbulkbjwiFmtArena
import Derived.Deep.DrawnRows
import Derived.Deep.RegionHeld3
namespace Go.Proofs.YbulkbjwiFmt
open Go.RowKit
attribute [local go_sem ↓] Go.wp_at_zero Go.wp_at_succ

/-- What Check asks of a coordinate. -/
def finB (x : Nat) : Bool := (FloatKind.f64.format.order x x != some .eq) || (FloatKind.f64.format.order (bits .andNot .u64 x 9223372036854775808).toNat 9218868437227405311 == some .gt)
theorem fin_nat : ∀ n : Nat, n < 256 → finB (floatOfInt .f64 ((n : Int) - 128)) = false := by decide +kernel
theorem fin_all (z : Int) (h0 : -128 ≤ z) (h1 : z ≤ 127) : finB (floatOfInt .f64 z) = false := by
  have := fin_nat (z + 128).toNat (by omega)
  rwa [show (((z + 128).toNat : Nat) : Int) - 128 = z by omega] at this

theorem f64bits (b : Nat) (w : World) : (callFunc 49 #[.float .f64 b]).run Ybaf.prog w = .ok (.value (.int .u64 b)) w := by
  rw [run_callFunc_extern (e := Extern.MathFloatBits.float64bits) Ybaf.func49 (by kernel_rfl) (by kernel_rfl) (by kernel_rfl) (by kernel_rfl)]
  rfl
theorem f64from (n : Int) (w : World) : (callFunc 48 #[.int .u64 n]).run Ybaf.prog w = .ok (.value (.float .f64 n.toNat)) w := by
  rw [run_callFunc_extern (e := Extern.MathFloatBits.float64frombits) Ybaf.func48 (by kernel_rfl) (by kernel_rfl) (by kernel_rfl) (by kernel_rfl)]
  rfl
theorem abs_any (b : Nat) (w : World) : Calls Ybaf.prog 37 #[.float .f64 b] w fun e w' => e = .returned (.float .f64 (bits .andNot .u64 b 9223372036854775808).toNat) ∧ w' = w := by
  have h1 := f64bits
  have h2 := f64from
  go_enter Ybaf.func37, Ybaf.ntmps37
  go_wp2
  go_ret
  exact ⟨rfl, rfl⟩
theorem isNaN_any (x : Nat) (w : World) : Calls Ybaf.prog 38 #[.float .f64 x] w fun e w' => e = .returned (.bool (FloatKind.f64.format.order x x != some .eq)) ∧ w' = w := by
  go_enter Ybaf.func38, Ybaf.ntmps38
  go_wp2
  go_ret
  exact ⟨rfl, rfl⟩
theorem isInf_zero (x : Nat) (w : World) : Calls Ybaf.prog 23 #[.float .f64 x, .int .i64 0] w fun e w' => e = .returned (.bool (FloatKind.f64.format.order (bits .andNot .u64 x 9223372036854775808).toNat 9218868437227405311 == some .gt)) ∧ w' = w := by
  go_enter Ybaf.func23, Ybaf.ntmps23
  go_wp2_with (go_at_call 37; refine (abs_any x _).mono ?_; rintro e w' ⟨rfl, rfl⟩)
  go_ret
  exact ⟨rfl, rfl⟩
theorem ord00 : FloatKind.f64.format.order 0 0 = some .eq := by kernel_rfl
theorem ord0m : FloatKind.f64.format.order 0 9218868437227405311 = some .lt := by kernel_rfl
theorem isInf_axis (w : World) : Calls Ybaf.prog 23 #[.float .f64 0, .int .i64 1] w fun e w' => e = .returned (.bool false) ∧ w' = w := by
  have h := ord0m
  go_enter Ybaf.func23, Ybaf.ntmps23
  go_wp2
  go_ret
  exact ⟨rfl, rfl⟩

/-- The zero Axis. -/
abbrev ax0 : Value := .agg #[.float .f64 0, .float .f64 0, .float .f64 0]
theorem bounded_zero (w : World) : Calls Ybaf.prog 46 #[ax0] w fun e w' => e = .returned (.bool false) ∧ Below w.heap.size w w' := by
  have h := ord00
  go_enter Ybaf.func46, Ybaf.ntmps46
  go_wp2
  go_ret
  exact ⟨rfl, (Below.refl _ _).alloc (Nat.le_refl _) _⟩
theorem split_zero (x l h : Nat) (w : World) : Calls Ybaf.prog 32 #[ax0, .float .f64 x, .float .f64 l, .float .f64 h] w fun e w' => e = .returned (.float .f64 x) ∧ Below w.heap.size w w' := by
  go_enter Ybaf.func32, Ybaf.ntmps32
  go_wp2_with (go_at_call 46; refine (bounded_zero _).mono ?_; rintro e w' ⟨rfl, hb⟩)
  go_ret
  exact ⟨rfl, ((Below.refl _ _).alloc (Nat.le_refl _) _).trans (hb.mono (by simp))⟩
theorem inf_pos (w : World) : Calls Ybaf.prog 56 #[.int .i64 1] w fun e w' => e = .returned (.float .f64 9218868437227405312) ∧ w' = w := by
  have h2 := f64from
  go_enter Ybaf.func56, Ybaf.ntmps56
  go_wp2
  go_ret
  exact ⟨rfl, rfl⟩
theorem inf_neg (w : World) : Calls Ybaf.prog 56 #[.int .i64 (-1)] w fun e w' => e = .returned (.float .f64 18442240474082181120) ∧ w' = w := by
  have h2 := f64from
  go_enter Ybaf.func56, Ybaf.ntmps56
  go_wp2
  go_ret
  exact ⟨rfl, rfl⟩
theorem span_zero (w : World) : Calls Ybaf.prog 44 #[ax0] w fun e w' => e = .returned (.tuple #[.float .f64 18442240474082181120, .float .f64 9218868437227405312]) ∧ w' = w.alloc (.cells #[.float .f64 0, .float .f64 0, .float .f64 0] 94) := by
  have h := ord00
  go_enter Ybaf.func44, Ybaf.ntmps44
  go_wp2_with (first
    | (go_at_call 56; with_reducible refine (inf_neg _).mono ?_; rintro e w' ⟨rfl, rfl⟩)
    | (go_at_call 56; with_reducible refine (inf_pos _).mono ?_; rintro e w' ⟨rfl, rfl⟩))
  go_ret2
  exact ⟨rfl, rfl⟩

/-- The tree's axes: d zero ones. -/
structure Axes (w : World) (T AX d cap : Nat) : Prop where
  ax : w.cell? ⟨T, 0, none⟩ = some (.slice (some ⟨AX, 0, none⟩) d cap)
  z : ∀ i, i < d → w.cell? ⟨AX, i * 3, none⟩ = some (.float .f64 0) ∧ w.cell? ⟨AX, i * 3 + 1, none⟩ = some (.float .f64 0) ∧ w.cell? ⟨AX, i * 3 + 2, none⟩ = some (.float .f64 0)
theorem Axes.kept {w w' : World} {T AX d cap : Nat} (h : Axes w T AX d cap) (h0 : w'.cell? ⟨T, 0, none⟩ = w.cell? ⟨T, 0, none⟩) (h1 : w'.heap[AX]? = w.heap[AX]?) : Axes w' T AX d cap :=
  ⟨h0.trans h.ax, fun i hi => ⟨(World.cell?_of_block (a := ⟨AX, i * 3, none⟩) h1).trans (h.z i hi).1, (World.cell?_of_block (a := ⟨AX, i * 3 + 1, none⟩) h1).trans (h.z i hi).2.1, (World.cell?_of_block (a := ⟨AX, i * 3 + 2, none⟩) h1).trans (h.z i hi).2.2⟩⟩
theorem Axes.fr {own : Nat → Prop} {w w' : World} {T AX d cap : Nat} (h : Axes w T AX d cap) (hd : 0 < d) (hf : Fr own w w') (h0 : ¬ own T) (h1 : ¬ own AX) : Axes w' T AX d cap :=
  h.kept ((hf.cell h.ax h0).trans h.ax.symm) (hf.block AX (World.block_lt_of_cell? _ _ (h.z 0 hd).1) h1)

/-- next. -/
theorem next_any (T AX d cap a : Nat) (w : World) (h : Axes w T AX d cap) (hd : d ≤ 3) (ha : a < d) :
    Calls Ybaf.prog 30 #[.pointer (some ⟨T, 0, none⟩), .int .i64 a] w fun e w' => (∃ a' : Nat, a' < d ∧ e = .returned (.int .i64 a')) ∧ w' = w := by
  have h0 := h.ax
  by_cases hl : a + 1 = d
  · have e1 : decide (((a : Int) + 1) = (d : Int)) = true := by simp; omega
    go_enter Ybaf.func30, Ybaf.ntmps30
    go_wp2
    go_ret
    exact ⟨⟨0, by omega, rfl⟩, rfl⟩
  · have e1 : decide (((a : Int) + 1) = (d : Int)) = false := by simp; omega
    go_enter Ybaf.func30, Ybaf.ntmps30
    go_wp2
    go_ret
    exact ⟨⟨a + 1, by omega, by go_num⟩, rfl⟩

/-- Sixteen floats. -/
def Row16 (w : World) (b : Nat) : Prop := ∀ j, j < 16 → ∃ x, w.cell? ⟨b, j, none⟩ = some (.float .f64 x) ∧ w.frozen? ⟨b, j, none⟩ = false
theorem Row16.fr {own : Nat → Prop} {w w' : World} {b : Nat} (h : Row16 w b) (hf : Fr own w w') (hn : ¬ own b) : Row16 w' b := by
  intro j hj
  obtain ⟨x, h1, h2⟩ := h j hj
  exact ⟨x, hf.cell h1 hn, hf.froz h1 h2 hn⟩
theorem Row16.set {w : World} {b : Nat} (h : Row16 w b) (o : Nat) (x : Nat) (c : Nat) : Row16 (w.setCell ⟨c, o, none⟩ (.float .f64 x)) b := by
  intro j hj
  obtain ⟨y, h1, h2⟩ := h j hj
  by_cases e : (⟨c, o, none⟩ : Addr) = ⟨b, j, none⟩
  · cases e
    exact ⟨x, World.cell?_setCell_same _ _ _ h1, by rw [World.frozen?_setCell]; exact h2⟩
  · exact ⟨y, by rw [World.cell?_setCell_other _ _ _ _ e]; exact h1, by rw [World.frozen?_setCell]; exact h2⟩
theorem Row16.lt {w : World} {b : Nat} (h : Row16 w b) : b < w.heap.size := by
  obtain ⟨x, h1, _⟩ := h 0 (by omega)
  exact World.block_lt_of_cell? _ _ h1
/-- A cell that can be written. -/
def okAt (w : World) (b off : Nat) : Bool := (w.cell? ⟨b, off, none⟩).isSome && !w.frozen? ⟨b, off, none⟩
theorem okAt_of {w : World} {b off : Nat} {v : Value} (h : w.cell? ⟨b, off, none⟩ = some v) (hz : w.frozen? ⟨b, off, none⟩ = false) : okAt w b off = true := by simp [okAt, h, hz]
theorem okAt_setCell (w : World) (a : Addr) (v : Value) (b off : Nat) : okAt (w.setCell a v) b off = okAt w b off := by
  unfold okAt
  rw [World.frozen?_setCell]
  by_cases e : a = ⟨b, off, none⟩
  · subst e
    cases h : w.cell? ⟨b, off, none⟩ with
    | some u => rw [World.cell?_setCell_same _ _ _ h]; rfl
    | none =>
      cases h2 : (w.setCell ⟨b, off, none⟩ v).cell? ⟨b, off, none⟩ with
      | none => rfl
      | some u =>
        exfalso
        simp only [World.setCell, World.cell?, Array.getElem?_modify] at h h2
        simp only [if_true] at h2
        cases hb : w.heap[b]? with
        | none => simp [hb] at h2
        | some o =>
          cases o <;> simp [hb] at h h2
          have h3 := h2
          rw [Array.getElem?_eq_none (by simpa using h)] at h3
          cases h3
  · rw [World.cell?_setCell_other _ _ _ _ e]
theorem okAt_alloc (w : World) (o : Obj) (b off : Nat) (h : okAt w b off = true) : okAt (w.alloc o) b off = true := by
  unfold okAt at h ⊢
  have hb : b < w.heap.size := by
    cases hc : w.cell? ⟨b, off, none⟩ with
    | some u => exact World.block_lt_of_cell? _ _ hc
    | none => simp [hc] at h
  rw [World.cell?_of_block (a := ⟨b, off, none⟩) (Below.heap_alloc w o b hb), World.frozen?_of_block (a := ⟨b, off, none⟩) (Below.heap_alloc w o b hb)]
  exact h
theorem okAt_drew (w : World) (b off : Nat) : okAt w.drew b off = okAt w b off := rfl
theorem run_store_float_ok {P : Program} {w : World} {b off : Nat} {m : Mode} (k : FloatKind) (x : Nat) (h : okAt w b off = true) : (store ⟨b, off, none⟩ (.float k x) m).run P w = .ok () (w.setCell ⟨b, off, none⟩ (.float k x)) := by
  rw [run_store P w _ _ m rfl]
  unfold okAt at h
  cases hc : w.cell? ⟨b, off, none⟩ with
  | some u => simp [hc] at h; simp [h]
  | none => simp [hc] at h
theorem run_store_float {P : Program} {w : World} {a : Addr} {m : Mode} (k : FloatKind) (b : Nat) : (store a (.float k b) m).run P w = stored P w a (.float k b) m := run_store P w a _ m rfl
theorem okAt_new (w : World) (z : Array Value) (E j : Nat) : okAt (w.alloc (.cells z E)) w.heap.size j = decide (j < z.size) := by
  unfold okAt
  rw [frozNew]
  by_cases h : j < z.size
  · rw [cellNew w z E j _ (Array.getElem?_eq_getElem h)]; simp [h]
  · have : (w.alloc (.cells z E)).cell? ⟨w.heap.size, j, none⟩ = none := by unfold World.cell?; simp only [heapNew]; simp; omega
    rw [this]; simp [h]
attribute [local go_sem] run_store_float_ok okAt_setCell okAt_alloc okAt_drew okAt_new

theorem Fr.drewR {own : Nat → Prop} {w w' : World} (h : Fr own w w') : Fr own w w'.drew := ⟨h.os, h.tape, h.output, h.size, h.block, h.shape⟩
theorem Fr.allocR {own : Nat → Prop} {w w' : World} (h : Fr own w w') (o : Obj) : Fr own w (w'.alloc o) := h.trans (Fr.alloc _ _ _)
theorem Fr.setR {own : Nat → Prop} {w w' : World} (h : Fr own w w') (a : Addr) (v : Value) (ho : own a.block) : Fr own w (w'.setCell a v) := h.trans (Fr.setCell _ _ _ _ ho)
theorem Row16.drew {w : World} {b : Nat} (h : Row16 w b) : Row16 w.drew b := h
theorem Row16.alloc {w : World} {b : Nat} (h : Row16 w b) (o : Obj) : Row16 (w.alloc o) b := h.fr (Fr.alloc (fun _ => False) w o) (fun h => h)

set_option maxRecDepth 100000 in
set_option maxHeartbeats 1000000 in
theorem whole_any (T AX d cap LO HI : Nat) (w : World) (h : Axes w T AX d cap) (hd0 : 0 < d) (hd : d ≤ 3) (hlo : Row16 w LO) (hhi : Row16 w HI) (n1 : LO ≠ T) (n2 : LO ≠ AX) (n3 : HI ≠ T) (n4 : HI ≠ AX) :
    Calls Ybaf.prog 29 #[.pointer (some ⟨T, 0, none⟩), .pointer (some ⟨LO, 0, none⟩), .pointer (some ⟨HI, 0, none⟩)] w fun e w' => e = .returned (.tuple #[]) ∧ Fr (fun b => b = LO ∨ b = HI) w w' ∧ Row16 w' LO ∧ Row16 w' HI := by
  have h0 := h.ax
  go_enter Ybaf.func29, Ybaf.ntmps29
  go_wp2_with fail
  go_loopw [13] (fun i wr => ∃ j : Nat, j ≤ d ∧ i = .int .i64 j ∧ Fr (fun b => b = LO ∨ b = HI) w wr ∧ Row16 wr LO ∧ Row16 wr HI) (fun i _ => d - (intOf i).toNat)
  case atStart => exact ⟨0, by omega, rfl, Fr.refl _ _, hlo, hhi⟩
  case round =>
    obtain ⟨j, hj, rfl, hf, hlo1, hhi1⟩ := hrel
    have h1 := h.fr hd0 hf (by rintro (e | e) <;> omega) (by rintro (e | e) <;> omega)
    by_cases hlt : j < d
    · obtain ⟨z0, z1, z2⟩ := h1.z j hlt
      have jb : (j : Int) < 16 := by omega
      have jd : (j : Int) < (d : Int) := by omega
      go_wp2_with fail
      obtain ⟨w1, hw1⟩ : ∃ w1, w1 = wr.alloc (.cells #[.float .f64 0, .float .f64 0, .float .f64 0] 94) := ⟨_, rfl⟩
      rw [← hw1]
      have hf1 : Fr (fun b => b = LO ∨ b = HI) w w1 := by rw [hw1]; exact hf.trans (Fr.alloc _ _ _)
      have hfn : Fr (fun _ => False) wr w1 := by rw [hw1]; exact Fr.alloc _ _ _
      have hlo2 := hlo1.fr hfn (fun h => h)
      have hhi2 := hhi1.fr hfn (fun h => h)
      have y0 : w1.cell? ⟨wr.heap.size, 0, none⟩ = some (.float .f64 0) := by rw [hw1]; exact cellNew _ _ _ _ _ rfl
      have y1 : w1.cell? ⟨wr.heap.size, 1, none⟩ = some (.float .f64 0) := by rw [hw1]; exact cellNew _ _ _ _ _ rfl
      have y2 : w1.cell? ⟨wr.heap.size, 2, none⟩ = some (.float .f64 0) := by rw [hw1]; exact cellNew _ _ _ _ _ rfl
      have n5 : wr.heap.size ≠ LO := by have := hlo1.lt; omega
      have n6 : wr.heap.size ≠ HI := by have := hhi1.lt; omega
      have n7 := n5.symm
      have n8 := n6.symm
      generalize wr.heap.size = B at *
      obtain ⟨x1, p1, p2⟩ := hlo2 j (by omega)
      obtain ⟨x2, q1, q2⟩ := hhi2 j (by omega)
      have l1 := World.new_ne w1 ⟨LO, j, none⟩ p1
      have l2 := World.new_ne w1 ⟨HI, j, none⟩ q1
      simp only at l1 l2
      have k1 := okAt_of p1 p2
      have k2 := okAt_of q1 q2
      clear p1 p2 q1 q2
      clear hw1 hfn hlo1 hhi1 hf z0 z1 z2 h1
      go_region_held3 (fun w' => w'.cell? ⟨B, 0, none⟩ = some (.float .f64 0) ∧ w'.cell? ⟨B, 1, none⟩ = some (.float .f64 0) ∧ w'.cell? ⟨B, 2, none⟩ = some (.float .f64 0) ∧
          okAt w' LO j = true ∧ okAt w' HI j = true) (simp [*, World.cell?_alloc_some, World.cell?_setCell_far, okAt_setCell, okAt_alloc, okAt_drew]) ((go_at_call 44; refine (span_zero _).mono ?_; rintro e w' ⟨rfl, rfl⟩))
      go_wp2_with fail
      go_roundw
      case rel =>
        refine ⟨j + 1, by omega, by go_num, ?_, ?_, ?_⟩
        · repeat (first | exact hf1 | refine Fr.drewR ?_ | refine Fr.allocR ?_ _ | refine Fr.setR ?_ _ _ (by first | exact .inl rfl | exact .inr rfl))
        · repeat (first | exact hlo2 | refine Row16.drew ?_ | refine Row16.alloc ?_ _ | refine Row16.set ?_ _ _ _)
        · repeat (first | exact hhi2 | refine Row16.drew ?_ | refine Row16.alloc ?_ _ | refine Row16.set ?_ _ _ _)
      case measure => simp [intOf]; omega
    · go_wp2
      go_end0
      exact ⟨rfl, hf, hlo1, hhi1⟩
end Go.Proofs.YbulkbjwiFmt
