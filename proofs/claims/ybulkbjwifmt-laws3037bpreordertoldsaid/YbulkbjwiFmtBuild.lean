/-
  SEAT b3037aF: zzs3037bbuild, walked.
-/
import Derived.Test.YbulkbjwiFmtNew
import Derived.Laws.MakeOwn
namespace Go.Proofs.YbulkbjwiFmt
open Go.RowKit
attribute [local go_sem ↓] Go.wp_at_zero Go.wp_at_succ
attribute [local go_sem] run_store_float_ok okAt_setCell okAt_alloc okAt_drew okAt_new

/-- The bytes that came in. -/
def Xs (w : World) (a : Option Addr) (n : Nat) : Prop := ∀ i, i < n → ∃ b off x, a = some ⟨b, off, none⟩ ∧ b < w.heap.size ∧ w.cell? ⟨b, off + i, none⟩ = some (.int .i8 x) ∧ -128 ≤ x ∧ x ≤ 127

/-- 'make([]T, n)' where every cell of T's zero value is v. -/
theorem made (t e n size bytes : Nat) (z v : Value) (ht : Ybaf.prog.underlying t = some (.slice e)) (hi : ∃ i, Ybaf.prog.info? e = some i ∧ i.zero = some z ∧ i.size = size ∧ i.bytes = bytes) (hb : bytes ≤ 24) (hn : n ≤ 1000) (hz : ∀ j, z.cells[j % z.cells.size]! = v) :
    ∃ row : Array Value, (∀ w, (Instr.makeSlice t (.int .i64 n) (.int .i64 n)).run Ybaf.prog w = .ok (.slice (some ⟨w.heap.size, 0, none⟩) n n) (w.alloc (.cells row e))) ∧ row.size = n * size ∧ ∀ j, j < n * size → row[j]? = some v := by
  obtain ⟨i, h1, h2, h3, h4⟩ := hi
  refine ⟨madeCells z.cells (n * size), fun w => ?_, size_madeCells _ _, fun j hj => ?_⟩
  · have := run_make (P := Ybaf.prog) w t e i z ht h1 h2 .i64 .i64 n n (by omega) (Int.le_refl _) (by rw [h4]; have : (bytes : Int) * (n : Int) ≤ 24 * 1000 := Int.mul_le_mul (by omega) (by omega) (by omega) (by omega); omega) (by omega)
    rw [h3] at this
    simpa using this
  · unfold madeCells
    simp [hj, hz]
theorem info4 : ∃ i, Ybaf.prog.info? 4 = some i ∧ i.zero = some (.bool false) ∧ i.size = 1 ∧ i.bytes = 1 := info_parts (by kernel_rfl)
theorem made32 (n : Nat) (hn : n ≤ 1000) : ∃ row : Array Value, (∀ w, (Instr.makeSlice 32 (.int .i64 n) (.int .i64 n)).run Ybaf.prog w = .ok (.slice (some ⟨w.heap.size, 0, none⟩) n n) (w.alloc (.cells row 94))) ∧ row.size = n * 3 ∧ ∀ j, j < n * 3 → row[j]? = some (.float .f64 0) :=
  made 32 94 n 3 24 _ _ Ybaf.underlying32 info94 (by omega) hn (fun j => by
    have : j % 3 = 0 ∨ j % 3 = 1 ∨ j % 3 = 2 := by omega
    rcases this with h | h | h <;> simp [Value.cells, h])
theorem made72 (n : Nat) (hn : n ≤ 1000) : ∃ row : Array Value, (∀ w, (Instr.makeSlice 72 (.int .i64 n) (.int .i64 n)).run Ybaf.prog w = .ok (.slice (some ⟨w.heap.size, 0, none⟩) n n) (w.alloc (.cells row 58))) ∧ row.size = n * 1 ∧ ∀ j, j < n * 1 → row[j]? = some (.float .f64 0) :=
  made 72 58 n 1 8 _ _ Ybaf.underlying72 info58 (by omega) hn (fun j => by simp [Value.cells, Nat.mod_one])
theorem made24 (n : Nat) (hn : n ≤ 1000) : ∃ row : Array Value, (∀ w, (Instr.makeSlice 24 (.int .i64 n) (.int .i64 n)).run Ybaf.prog w = .ok (.slice (some ⟨w.heap.size, 0, none⟩) n n) (w.alloc (.cells row 30))) ∧ row.size = n * 1 ∧ ∀ j, j < n * 1 → row[j]? = some (.int .u32 0) :=
  made 24 30 n 1 4 _ _ Ybaf.underlying24 info30 (by omega) hn (fun j => by simp [Value.cells, Nat.mod_one])
theorem made63 (n : Nat) (hn : n ≤ 1000) : ∃ row : Array Value, (∀ w, (Instr.makeSlice 63 (.int .i64 n) (.int .i64 n)).run Ybaf.prog w = .ok (.slice (some ⟨w.heap.size, 0, none⟩) n n) (w.alloc (.cells row 4))) ∧ row.size = n * 1 ∧ ∀ j, j < n * 1 → row[j]? = some (.bool false) :=
  made 63 4 n 1 1 _ _ Ybaf.underlying63 info4 (by omega) hn (fun j => by simp [Value.cells, Nat.mod_one])

/-- The slots handed out so far. -/
structure SRow (w : World) (SB n bb ss j : Nat) : Prop where
  sh : w.shape? SB = some (30, n)
  cell : ∀ k, k < j → w.cell? ⟨SB, k, none⟩ = some (.int .u32 ((bb + k * ss : Nat) : Int))
  ok : ∀ k, k < n → okAt w SB k = true
theorem okAt_fr {own : Nat → Prop} {w w' : World} {b k : Nat} (h : okAt w b k = true) (hf : Fr own w w') (hn : ¬ own b) : okAt w' b k = true := by
  have hb : b < w.heap.size := by
    unfold okAt at h
    cases hc : w.cell? ⟨b, k, none⟩ with
    | some u => exact World.block_lt_of_cell? _ _ hc
    | none => simp [hc] at h
  unfold okAt at h ⊢
  rw [World.cell?_of_block (a := ⟨b, k, none⟩) (hf.block b hb hn), World.frozen?_of_block (a := ⟨b, k, none⟩) (hf.block b hb hn)]
  exact h
theorem okAt_cell {w : World} {b k : Nat} (h : okAt w b k = true) : ∃ v, w.cell? ⟨b, k, none⟩ = some v ∧ w.frozen? ⟨b, k, none⟩ = false := by
  unfold okAt at h
  cases hc : w.cell? ⟨b, k, none⟩ with
  | some u => simp [hc] at h; exact ⟨u, rfl, h⟩
  | none => simp [hc] at h
theorem SRow.fr {own : Nat → Prop} {w w' : World} {SB n bb ss j : Nat} (h : SRow w SB n bb ss j) (hf : Fr own w w') (hn : ¬ own SB) : SRow w' SB n bb ss j :=
  ⟨(hf.shape SB (shape_lt h.sh)).trans h.sh, fun k hk => hf.cell (h.cell k hk) hn, fun k hk => okAt_fr (h.ok k hk) hf hn⟩
theorem SRow.not_own {w : World} {B SB n bb ss j : Nat} (h : SRow w SB n bb ss j) : ¬ Own B w SB := by
  rintro ⟨_, e, m, h1, h2⟩
  rw [h.sh] at h1; cases h1; simp at h2

set_option maxRecDepth 100000 in
set_option maxHeartbeats 4000000 in
theorem build_any (a : Option Addr) (n xc : Nat) (dim base stride : Int) (w : World) (hn : n ≤ 300) (hx : Xs w a n) (d0 : 0 ≤ dim) (d1 : dim ≤ 255) (b0 : 0 ≤ base) (b1 : base ≤ 255) (s0 : 0 ≤ stride) (s1 : stride ≤ 255) :
    Calls Ybaf.prog 5 #[.slice a n xc, .int .u8 dim, .int .u8 base, .int .u8 stride] w fun e w' => ∃ T AX d cap pg ch fp fc t SB bb ss, e = .returned (.tuple #[.pointer (some ⟨T, 0, none⟩), .slice (some ⟨SB, 0, none⟩) n n, .bool true]) ∧
      Mem w' w.heap.size T AX d cap pg ch fp fc t ∧ SRow w' SB n bb ss n ∧ t.slots.Perm ((List.range n).map fun k => bb + k * ss) ∧ 0 < bb ∧ 0 < ss ∧ bb + n * ss < 4096 ∧ w.heap.size ≤ SB ∧ Below w.heap.size w w' := by
  obtain ⟨d, hd⟩ : ∃ d : Nat, 1 + dim % 3 = (d : Int) := ⟨(1 + dim % 3).toNat, by omega⟩
  have hd0 : 0 < d := by omega
  have hd3 : d ≤ 3 := by omega
  obtain ⟨bb, hbb⟩ : ∃ bb : Nat, 1 + base = (bb : Int) := ⟨(1 + base).toNat, by omega⟩
  obtain ⟨ss, hss⟩ : ∃ ss : Nat, 1 + stride % 7 = (ss : Int) := ⟨(1 + stride % 7).toNat, by omega⟩
  have hbb1 : 0 < bb := by omega
  have hbb2 : bb ≤ 256 := by omega
  have hss1 : 0 < ss := by omega
  have hss2 : ss ≤ 7 := by omega
  obtain ⟨row1, m1, m1s, m1c⟩ := made32 d (by omega)
  obtain ⟨row2, m2, m2s, m2c⟩ := made24 n (by omega)
  obtain ⟨row3, m3, m3s, m3c⟩ := made72 d (by omega)
  replace m3 : Hid _ := m3
  go_enter Ybaf.func5, Ybaf.ntmps5
  go_wp2_with fail
  refine (new_any w.heap.size d d w.heap.size (w.alloc (.cells row1 94)) (by simp) hd0 hd3 (fun j hj => cellNew _ _ _ _ _ (m1c j hj))).mono ?_
  rintro e w1 ⟨T, AX, cap, rfl, hM1, hb1⟩
  have hB1 : Below w.heap.size w w1 := ((Below.refl _ w).alloc (Nat.le_refl _) _).trans (hb1.mono (by simp))
  clear hb1 m1 m1s m1c
  obtain ⟨w2, hw2⟩ : ∃ w2, w2 = w1.alloc (.cells row2 30) := ⟨_, rfl⟩
  obtain ⟨SB, hSB⟩ : ∃ SB, SB = w1.heap.size := ⟨_, rfl⟩
  have m2' : (Instr.makeSlice 24 (.int .i64 n) (.int .i64 n)).run Ybaf.prog w1 = .ok (.slice (some ⟨SB, 0, none⟩) n n) w2 := by rw [hw2, hSB]; exact m2 w1
  have hf2 : Fr (fun _ => False) w1 w2 := by rw [hw2]; exact Fr.alloc _ _ _
  have hM2 := hM1.fr hf2 (Free.none _)
  have hS2 : SRow w2 SB n bb ss 0 := by
    refine ⟨?_, fun k hk => absurd hk (Nat.not_lt_zero _), fun k hk => ?_⟩
    · rw [hw2, hSB, shapeNew, m2s]; simp
    · rw [hw2, hSB, okAt_new, m2s]; simpa using hk
  have hSBge : w.heap.size ≤ SB := by rw [hSB]; exact hB1.size
  have hB2 : Below w.heap.size w w2 := hB1.trans (by rw [hw2]; exact (Below.refl _ _).alloc (by have := hB1.size; omega) _)
  clear m2 m2s m2c hf2 hM1 hB1 hw2 hSB
  go_wp2_with fail
  clear m2'
  go_loopw [19] (fun i wr => ∃ (j : Nat) (pg : Option Nat) (ch : Nat → Option Nat) (fp : Option Nat) (fc : Nat → Option Nat) (t : BT), j ≤ n ∧ i = .int .i64 j ∧ Mem wr w.heap.size T AX d cap pg ch fp fc t ∧ SRow wr SB n bb ss j ∧ t.slots.Perm ((List.range j).map fun k => bb + k * ss) ∧ Below w.heap.size w wr)
    (fun i _ => n - (intOf i).toNat)
  case atStart => exact ⟨0, _, _, _, _, _, by omega, rfl, hM2, hS2, by simp [BT.slots], hB2⟩
  case round =>
    clear hM2 hS2 hB2
    obtain ⟨j, pg, ch, fp, fc, t, hj, rfl, hM, hS, hperm, hB⟩ := hrel
    obtain ⟨wo, hwo⟩ : ∃ wo, wo = wr := ⟨_, rfl⟩
    subst hwo
    by_cases hlt : j < n
    · obtain ⟨xb, xo, _, rfl, hxb, _⟩ := hx 0 (by omega)
      obtain ⟨v1, hv1⟩ : ∃ v1, v1 = wo.alloc (.cells row3 58) := ⟨_, rfl⟩
      obtain ⟨PB, hPB⟩ : ∃ PB, PB = wo.heap.size := ⟨_, rfl⟩
      have m3' : (Instr.makeSlice 72 (.int .i64 d) (.int .i64 d)).run Ybaf.prog wo = .ok (.slice (some ⟨PB, 0, none⟩) d d) v1 := by rw [hv1, hPB]; exact m3.out wo
      have hfv : Fr (fun b => b = PB) wo v1 := by rw [hv1]; exact Fr.alloc _ _ _
      have hokv : ∀ k, k < d → okAt v1 PB k = true := by intro k hk; rw [hv1, hPB, okAt_new, m3s]; simpa using hk
      have hshv : v1.shape? PB = some (58, d) := by rw [hv1, hPB, shapeNew, m3s]; simp
      have hPBs : wo.heap.size ≤ PB := by omega
      have hxv : ∀ i, i < n → ∃ x, wo.cell? ⟨xb, xo + i, none⟩ = some (.int .i8 x) ∧ -128 ≤ x ∧ x ≤ 127 := by
        intro i hi
        obtain ⟨b', o', x, e, h1, h2, h3, h4⟩ := hx i hi
        cases e
        exact ⟨x, (hB.cell (p := ⟨xb, xo + i, none⟩) hxb).trans h2, h3, h4⟩
      have hn0 : (0 : Int) < (n : Int) := by omega
      clear hv1 hPB hx
      go_wp2_with fail
      clear m3'
      go_loopw [21] (fun i wq => ∃ q : Nat, q ≤ d ∧ i = .int .i64 q ∧ Fr (fun b => b = PB) wo wq ∧ wq.shape? PB = some (58, d) ∧ (∀ k, k < d → okAt wq PB k = true) ∧ Pt wq PB q) (fun i _ => d - (intOf i).toNat)
      case atStart => exact ⟨0, by omega, rfl, hfv, hshv, hokv, fun k hk => absurd hk (Nat.not_lt_zero _)⟩
      case round =>
        obtain ⟨q, hq, rfl, hfq, hshq, hokq, hptq⟩ := hrel
        by_cases hqd : q < d
        · obtain ⟨ix, hix⟩ : ∃ ix, (j + q * 5) % n = ix := ⟨_, rfl⟩
          have hixn : ix < n := by rw [← hix]; exact Nat.mod_lt _ (by omega)
          have f1 : ((j : Int) + (q : Int) * 5) % (n : Int) = (ix : Int) := by rw [← hix]; simp
          have f2 : ((j : Int) + (q : Int) * 5).tmod (n : Int) = (ix : Int) := by rw [Int.tmod_eq_emod_of_nonneg (by omega)]; exact f1
          have f3 : (ix : Int) < (n : Int) := by omega
          obtain ⟨x, hxc, x0, x1⟩ := hxv ix hixn
          have hxq : wr.cell? ⟨xb, xo + ix, none⟩ = some (.int .i8 x) := hfq.cell hxc (by have := shape_lt hM.shT; have := hB.size; omega)
          have hokj := hokq q hqd
          have qd : (q : Int) < (d : Int) := by omega
          clear hix
          go_wp2_with fail
          refine ⟨⟨q + 1, by omega, by go_num, hfq.setR _ _ rfl, by rw [shape_setCell]; exact hshq, fun k hk => by rw [okAt_setCell]; exact hokq k hk, ?_⟩, by simp [intOf]; omega⟩
          intro k hk
          by_cases hkq : k = q
          · subst hkq
            obtain ⟨u, hu, _⟩ := okAt_cell hokj
            exact ⟨_, World.cell?_setCell_same _ _ _ hu, fin_all x x0 x1⟩
          · obtain ⟨y, hy, hy2⟩ := hptq k (by omega)
            exact ⟨y, by rw [World.cell?_setCell_other _ _ _ _ (by intro e; injection e with _ e2 _; exact hkq e2.symm)]; exact hy, hy2⟩
        · obtain rfl : q = d := by omega
          obtain ⟨sl, hsl⟩ : ∃ sl, sl = bb + j * ss := ⟨_, rfl⟩
          have hjs : j * ss ≤ 300 * 7 := Nat.mul_le_mul (by omega) (by omega)
          have hsl' : (bb : Int) + (j : Int) * (ss : Int) = (sl : Int) := by
            rw [hsl, ← Int.natCast_mul, ← Int.natCast_add]
          have hsl0 : 0 < sl := by omega
          have hsl1 : sl < 4096 := by omega
          have hfree : Free wo (fun b => b = PB) := by
            rintro b rfl e m h
            have := shape_lt h
            omega
          have hMq := hM.fr hfq hfree
          have hSq := hS.fr hfq (by have := shape_lt hS.sh; omega)
          have hBq : Below w.heap.size w wr := hB.trans (hfq.below hB.size (fun b e => by have := hB.size; omega))
          have hslt : sl ∉ t.slots := by
            rw [hperm.mem_iff]
            simp only [List.mem_map, List.mem_range, not_exists, not_and]
            intro k hk e
            rw [hsl] at e
            have := Nat.mul_lt_mul_of_pos_right hk hss1
            omega
          clear hM hS hB hfq hfree hokq hxv
          replace hsl : Hid _ := hsl
          go_wp2_with fail
          refine (insert_any w.heap.size T AX q cap pg fp ch fc t sl PB q q wr hMq hBq.size hsl0 hsl1 hslt hptq hshq).mono ?_
          rintro e w3 ⟨rfl, pg', ch', fp', fc', t', hM3, hperm3, hf3⟩
          have hS3 := hSq.fr hf3 hSq.not_own
          have hB3 : Below w.heap.size w w3 := hBq.trans (hf3.below hBq.size (fun b h => h.1))
          obtain ⟨u3, hu3, hz3⟩ := okAt_cell (hS3.ok j hlt)
          have jn : (j : Int) < (n : Int) := by omega
          go_wp2_with fail
          refine ⟨⟨j + 1, pg', ch', fp', fc', t', by omega, by go_num, ?_, ?_, ?_, ?_⟩, by simp [intOf]; omega⟩
          · refine hM3.fr (Fr.setCell (fun b => b = SB) _ _ _ rfl) ?_
            rintro b rfl e m h
            rw [hS3.sh] at h; cases h; unfold Kind; decide
          · refine ⟨by rw [shape_setCell]; exact hS3.sh, fun k hk => ?_, fun k hk => by rw [okAt_setCell]; exact hS3.ok k hk⟩
            by_cases hkj : k = j
            · subst hkj
              rw [World.cell?_setCell_same _ _ _ hu3, hsl.out]
            · rw [World.cell?_setCell_other _ _ _ _ (by intro e; injection e with _ e2 _; exact hkj e2.symm)]
              exact hS3.cell k (by omega)
          · rw [List.range_succ, List.map_append]
            refine (hperm3.trans (List.Perm.cons _ hperm)).trans ?_
            rw [hsl.out]
            exact (List.perm_append_singleton _ _).symm
          · exact hB3.setCell (p := ⟨SB, j, none⟩) hSBge _
    · obtain rfl : j = n := by omega
      have hjs : j * ss ≤ 300 * 7 := Nat.mul_le_mul (by omega) (by omega)
      go_wp2_with fail
      go_ret3
      exact ⟨T, AX, d, cap, pg, ch, fp, fc, t, SB, bb, ss, rfl, hM, hS, hperm, hbb1, hss1, by omega, hSBge, hB⟩
end Go.Proofs.YbulkbjwiFmt
