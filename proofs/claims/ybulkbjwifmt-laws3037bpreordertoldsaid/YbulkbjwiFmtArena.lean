/-
  SEAT b3037aF: THE TWO ARENAS: At and Make, over slots below 4096 (page 0, chunks 0 and 1).
-/
import Derived.Test.YbulkbjwiFmtAtomic
import Derived.Laws.BitsAllLaws
namespace Go.Proofs.YbulkbjwiFmt
open Go.RowKit

theorem bits_1023 (k : Nat) (hk : k < 2) : bits .and .u32 (k : Int) 1023 = k := by
  have := u32_and_nat k 1023 (by omega) (by omega)
  rw [show ((1023 : Nat) : Int) = 1023 from rfl] at this
  rw [this]
  have h : k = 0 ∨ k = 1 := by omega
  rcases h with rfl | rfl <;> decide
theorem bits_2047 (s : Nat) (hs : s < 4096) : bits .and .u32 (s : Int) 2047 = ((s % 2048 : Nat) : Int) := by
  have := u32_and_nat s 2047 (by omega) (by omega)
  rw [show ((2047 : Nat) : Int) = 2047 from rfl] at this
  rw [this]
  have h := Nat.and_two_pow_sub_one_eq_mod s 11
  simp at h
  rw [h]

/-- An arena whose pages begin at cell A of block T: its page 0 and the page's chunks 0 and 1. -/
structure Ar (PE CE CS : Nat) (w : World) (T A : Nat) (pg : Option Nat) (ch : Nat → Option Nat) : Prop where
  top : w.cell? ⟨T, A, none⟩ = some (.pointer (pg.map fun b => ⟨b, 0, none⟩))
  topz : w.frozen? ⟨T, A, none⟩ = false
  page : ∀ P, pg = some P → w.shape? P = some (PE, 1024)
  cell : ∀ P, pg = some P → ∀ k, k < 2 → w.cell? ⟨P, k, none⟩ = some (.pointer ((ch k).map fun b => ⟨b, 0, none⟩)) ∧ w.frozen? ⟨P, k, none⟩ = false
  chunk : ∀ k c, ch k = some c → w.shape? c = some (CE, CS)
  none_ : pg = none → ∀ k, ch k = none

/-- What a call may have changed: blocks that it owns; all else below stands. -/
structure Fr (own : Nat → Prop) (w w' : World) : Prop where
  os : w'.os = w.os
  tape : w'.tape = w.tape
  output : w'.output = w.output
  size : w.heap.size ≤ w'.heap.size
  block : ∀ b, b < w.heap.size → ¬ own b → w'.heap[b]? = w.heap[b]?
  shape : ∀ b, b < w.heap.size → w'.shape? b = w.shape? b

theorem Fr.refl (own : Nat → Prop) (w : World) : Fr own w w := ⟨rfl, rfl, rfl, Nat.le_refl _, fun _ _ _ => rfl, fun _ _ => rfl⟩
theorem Fr.trans {own : Nat → Prop} {a b c : World} (h : Fr own a b) (k : Fr own b c) : Fr own a c :=
  ⟨k.os.trans h.os, k.tape.trans h.tape, k.output.trans h.output, Nat.le_trans h.size k.size, fun i hi hn => (k.block i (Nat.lt_of_lt_of_le hi h.size) hn).trans (h.block i hi hn), fun i hi => (k.shape i (Nat.lt_of_lt_of_le hi h.size)).trans (h.shape i hi)⟩
/-- What it owned only as fresh need not be named. -/
theorem Fr.trans' {own own' : Nat → Prop} {a b c : World} (h : Fr own a b) (k : Fr own' b c) (hw : ∀ i, i < a.heap.size → own' i → own i) : Fr own a c :=
  ⟨k.os.trans h.os, k.tape.trans h.tape, k.output.trans h.output, Nat.le_trans h.size k.size, fun i hi hn => (k.block i (Nat.lt_of_lt_of_le hi h.size) (fun h1 => hn (hw i hi h1))).trans (h.block i hi hn), fun i hi => (k.shape i (Nat.lt_of_lt_of_le hi h.size)).trans (h.shape i hi)⟩
theorem Fr.mono {own own' : Nat → Prop} {w w' : World} (h : Fr own w w') (hw : ∀ i, i < w.heap.size → own i → own' i) : Fr own' w w' :=
  ⟨h.os, h.tape, h.output, h.size, fun i hi hn => h.block i hi (fun h1 => hn (hw i hi h1)), h.shape⟩
theorem shape_of_block {w w' : World} {b : Nat} (h : w'.heap[b]? = w.heap[b]?) : w'.shape? b = w.shape? b := by
  unfold World.shape?; rw [h]
theorem Fr.alloc (own : Nat → Prop) (w : World) (o : Obj) : Fr own w (w.alloc o) :=
  ⟨rfl, rfl, rfl, by simp, fun b hb _ => Below.heap_alloc w o b hb, fun b hb => shape_of_block (Below.heap_alloc w o b hb)⟩
theorem heap_setCell_other (w : World) (a : Addr) (v : Value) (b : Nat) (h : b ≠ a.block) : (w.setCell a v).heap[b]? = w.heap[b]? := by
  simp only [World.setCell, Array.getElem?_modify]; rw [if_neg (fun e => h e.symm)]
theorem Fr.setCell (own : Nat → Prop) (w : World) (a : Addr) (v : Value) (h : own a.block) : Fr own w (w.setCell a v) :=
  ⟨rfl, rfl, rfl, by simp [World.setCell], fun b _ hn => heap_setCell_other w a v b (by rintro rfl; exact hn h), fun b _ => shape_setCell w a v b⟩
theorem Fr.below {own : Nat → Prop} {w w' : World} {B : Nat} (h : Fr own w w') (hB : B ≤ w.heap.size) (ho : ∀ b, own b → B ≤ b) : Below B w w' :=
  ⟨h.os, h.tape, h.output, h.size, fun b hb => h.block b (by omega) (fun h1 => by have := ho b h1; omega)⟩
theorem Fr.of_below {own : Nat → Prop} {w w' : World} (h : Below w.heap.size w w') : Fr own w w' :=
  ⟨h.os, h.tape, h.output, h.size, fun b hb _ => h.block b hb, fun b hb => shape_of_block (h.block b hb)⟩
theorem Fr.cell {own : Nat → Prop} {w w' : World} (h : Fr own w w') {b off : Nat} {v : Value} (hc : w.cell? ⟨b, off, none⟩ = some v) (hn : ¬ own b) : w'.cell? ⟨b, off, none⟩ = some v :=
  (World.cell?_of_block (a := ⟨b, off, none⟩) (h.block b (World.block_lt_of_cell? _ _ hc) hn)).trans hc
theorem Fr.froz {own : Nat → Prop} {w w' : World} (h : Fr own w w') {b off : Nat} {v : Value} (hc : w.cell? ⟨b, off, none⟩ = some v) (hz : w.frozen? ⟨b, off, none⟩ = false) (hn : ¬ own b) : w'.frozen? ⟨b, off, none⟩ = false :=
  (World.frozen?_of_block (a := ⟨b, off, none⟩) (h.block b (World.block_lt_of_cell? _ _ hc) hn)).trans hz
theorem shape_lt {w : World} {b : Nat} {x : TypeId × Nat} (h : w.shape? b = some x) : b < w.heap.size := by
  unfold World.shape? at h
  split at h
  · rename_i hb; exact (Array.getElem?_eq_some_iff.1 hb).1
  · cases h
theorem cellNew (w : World) (z : Array Value) (E j : Nat) (v : Value) (h : z[j]? = some v) : (w.alloc (.cells z E)).cell? ⟨w.heap.size, j, none⟩ = some v := by
  unfold World.cell?; simp only [heapNew]; simpa using h
theorem frozNew (w : World) (z : Array Value) (E j : Nat) : (w.alloc (.cells z E)).frozen? ⟨w.heap.size, j, none⟩ = false := by
  unfold World.frozen?; simp only [heapNew]; simp
theorem shapeNew (w : World) (z : Array Value) (E : Nat) : (w.alloc (.cells z E)).shape? w.heap.size = some (E, z.size) := by
  unfold World.shape?; simp only [heapNew]
theorem shape_ne {w : World} {b b' e e' n n' : Nat} (h : w.shape? b = some (e, n)) (h' : w.shape? b' = some (e', n')) (hne : e ≠ e') : b ≠ b' := by
  rintro rfl; rw [h] at h'; cases h'; exact hne rfl

theorem Ar.add {PE CE CS : Nat} {w : World} {T A P : Nat} {ch : Nat → Option Nat} (h : Ar PE CE CS w T A (some P) ch) (zc : Array Value) (hz : zc.size = CS) (hTP : T ≠ P) {k : Nat} (hk : k < 2) (hn : ch k = none) :
    Ar PE CE CS ((w.alloc (.cells zc CE)).setCell ⟨P, k, none⟩ (.pointer (some ⟨w.heap.size, 0, none⟩))) T A (some P) (fun j => if j = k then some w.heap.size else ch j) ∧
    Fr (fun b => b = P) w ((w.alloc (.cells zc CE)).setCell ⟨P, k, none⟩ (.pointer (some ⟨w.heap.size, 0, none⟩))) ∧
    ((w.alloc (.cells zc CE)).setCell ⟨P, k, none⟩ (.pointer (some ⟨w.heap.size, 0, none⟩))).heap[w.heap.size]? = some (.cells zc CE) := by
  have hf : Fr (fun b => b = P) w (w.alloc (.cells zc CE)) := Fr.alloc _ w _
  have hPl : P < w.heap.size := shape_lt (h.page P rfl)
  have hf2 : Fr (fun b => b = P) w ((w.alloc (.cells zc CE)).setCell ⟨P, k, none⟩ (.pointer (some ⟨w.heap.size, 0, none⟩))) := hf.trans (Fr.setCell _ _ _ _ rfl)
  have hnn : ∀ b, ¬ (fun _ : Nat => False) b := fun _ h => h
  have hf0 : Fr (fun _ => False) w (w.alloc (.cells zc CE)) := Fr.alloc _ w _
  refine ⟨⟨hf2.cell h.top hTP, hf2.froz h.top h.topz hTP, ?_, ?_, ?_, ?_⟩, hf2, ?_⟩
  · intro P' e; cases e
    exact (hf2.shape P hPl).trans (h.page P rfl)
  · intro P' e j hj; cases e
    obtain ⟨g1, g2⟩ := h.cell P rfl j hj
    have e1 := hf0.cell g1 (hnn P)
    refine ⟨?_, by rw [World.frozen?_setCell]; exact hf0.froz g1 g2 (hnn P)⟩
    by_cases e : j = k
    · subst e
      rw [World.cell?_setCell_same _ _ _ e1]; simp
    · rw [World.cell?_setCell_other _ _ _ _ (by intro q; injection q with _ q2 _; exact e q2.symm), e1]; simp [e]
  · intro j c hc
    by_cases e : j = k
    · simp [e] at hc; subst hc
      rw [shape_setCell, shapeNew, hz]
    · simp [e] at hc
      have := h.chunk j c hc
      exact (hf2.shape c (shape_lt this)).trans this
  · intro e; cases e
  · rw [heap_setCell_other _ _ _ _ (by show w.heap.size ≠ P; omega)]; exact heapNew _ _

theorem Ar.addPage {PE CE CS : Nat} {w : World} {T A : Nat} {ch : Nat → Option Nat} (h : Ar PE CE CS w T A none ch) (zc : Array Value) (hz : zc.size = 1024) (hv : ∀ j, j < 1024 → zc[j]? = some (.pointer none)) :
    Ar PE CE CS ((w.alloc (.cells zc PE)).setCell ⟨T, A, none⟩ (.pointer (some ⟨w.heap.size, 0, none⟩))) T A (some w.heap.size) ch ∧
    Fr (fun b => b = T) w ((w.alloc (.cells zc PE)).setCell ⟨T, A, none⟩ (.pointer (some ⟨w.heap.size, 0, none⟩))) ∧
    (∀ off, off ≠ A → ((w.alloc (.cells zc PE)).setCell ⟨T, A, none⟩ (.pointer (some ⟨w.heap.size, 0, none⟩))).cell? ⟨T, off, none⟩ = w.cell? ⟨T, off, none⟩ ∧
      ((w.alloc (.cells zc PE)).setCell ⟨T, A, none⟩ (.pointer (some ⟨w.heap.size, 0, none⟩))).frozen? ⟨T, off, none⟩ = w.frozen? ⟨T, off, none⟩) := by
  have hTl : T < w.heap.size := World.block_lt_of_cell? _ _ h.top
  have hf0 : Fr (fun _ => False) w (w.alloc (.cells zc PE)) := Fr.alloc _ w _
  have hnn : ∀ b, ¬ (fun _ : Nat => False) b := fun _ h => h
  have hf2 : Fr (fun b => b = T) w ((w.alloc (.cells zc PE)).setCell ⟨T, A, none⟩ (.pointer (some ⟨w.heap.size, 0, none⟩))) := (Fr.alloc _ w _).trans (Fr.setCell _ _ _ _ rfl)
  have e1 := hf0.cell h.top (hnn T)
  refine ⟨⟨?_, by rw [World.frozen?_setCell]; exact hf0.froz h.top h.topz (hnn T), ?_, ?_, ?_, ?_⟩, hf2, ?_⟩
  · rw [World.cell?_setCell_same _ _ _ e1]; simp
  · intro P e; cases e
    rw [shape_setCell, shapeNew, hz]
  · intro P e j hj; cases e
    refine ⟨?_, by rw [World.frozen?_setCell]; exact frozNew _ _ _ _⟩
    rw [World.cell?_setCell_other _ _ _ _ (by intro q; injection q with q1 _ _; omega), cellNew w zc PE j _ (hv j (by omega)), h.none_ rfl j]
    rfl
  · intro j c hc
    rw [h.none_ rfl j] at hc; cases hc
  · intro e; cases e
  · intro off ho
    refine ⟨?_, ?_⟩
    · rw [World.cell?_setCell_other _ _ _ _ (by intro q; injection q with _ q2 _; exact ho q2.symm)]
      exact World.cell?_of_block (a := ⟨T, off, none⟩) (Below.heap_alloc w _ T hTl)
    · rw [World.frozen?_setCell]
      exact World.frozen?_of_block (a := ⟨T, off, none⟩) (Below.heap_alloc w _ T hTl)

/-! ### Node -/
set_option maxRecDepth 100000 in
theorem atNode (T A pg c s : Nat) (w : World) (hs : s < 4096) (h1 : w.cell? ⟨T, A, none⟩ = some (.pointer (some ⟨pg, 0, none⟩))) (g1 : w.shape? pg = some (88, 1024))
    (h2 : w.cell? ⟨pg, s / 2048, none⟩ = some (.pointer (some ⟨c, 0, none⟩))) (g2 : w.shape? c = some (91, 8192)) :
    Calls Ybaf.prog 9 #[.pointer (some ⟨T, A, none⟩), .int .u32 s] w fun e w' => e = .returned (.pointer (some ⟨c, s % 2048 * 4, none⟩)) ∧ w' = w := by
  obtain ⟨k, hk⟩ : ∃ k, s / 2048 = k := ⟨_, rfl⟩
  have hk2 : k < 2 := by omega
  rw [hk] at h2
  have b1 : (s : Int) / 2097152 = 0 := by omega
  have b2 : (s : Int) / 2048 = (k : Int) := by omega
  have b3 := bits_1023 k hk2
  have b4 := bits_2047 s hs
  have c1 : (k : Int) < 1024 := by omega
  have c2 : ((s % 2048 : Nat) : Int) < 2048 := by omega
  have c3 : (0 : Int) ≤ ((s % 2048 : Nat) : Int) := by omega
  generalize s % 2048 = i at *
  clear hk
  go_enter Ybaf.func9, Ybaf.ntmps9
  go_wp2_with (first
    | (go_at_call 20; refine (loadPage_some T A pg w h1 g1).mono ?_; rintro e w' ⟨rfl, rfl⟩)
    | (go_at_call 21; refine (loadChunk_some pg k c _ h2 g2).mono ?_; rintro e w' ⟨rfl, rfl⟩))
  go_ret
  exact ⟨by go_num, rfl⟩

set_option maxRecDepth 100000 in
theorem makeNode (T A s : Nat) (pg : Option Nat) (ch : Nat → Option Nat) (w : World) (hs : s < 4096) (h : Ar 88 91 8192 w T A pg ch) (hT : ∀ e n, w.shape? T = some (e, n) → e ≠ 88 ∧ e ≠ 91) :
    Calls Ybaf.prog 26 #[.pointer (some ⟨T, A, none⟩), .int .u32 s] w fun e w' => ∃ P c ch', e = .returned (.pointer (some ⟨c, s % 2048 * 4, none⟩)) ∧ Ar 88 91 8192 w' T A (some P) ch' ∧
      ch' (s / 2048) = some c ∧ (∀ k, k ≠ s / 2048 → ch' k = ch k) ∧ (pg = some P ∨ pg = none ∧ w.heap.size ≤ P) ∧
      (ch (s / 2048) = some c ∨ ch (s / 2048) = none ∧ w.heap.size ≤ c ∧ w'.heap[c]? = some (.cells zc91 91)) ∧ Fr (fun b => b = T ∨ pg = some b) w w' ∧
      (∀ off, off ≠ A → w'.cell? ⟨T, off, none⟩ = w.cell? ⟨T, off, none⟩ ∧ w'.frozen? ⟨T, off, none⟩ = w.frozen? ⟨T, off, none⟩) := by
  obtain ⟨k, hk⟩ : ∃ k, s / 2048 = k := ⟨_, rfl⟩
  have hk2 : k < 2 := by omega
  rw [hk]
  have b1 : (s : Int) / 2097152 = 0 := by omega
  have b2 : (s : Int) / 2048 = (k : Int) := by omega
  have b3 := bits_1023 k hk2
  have b4 := bits_2047 s hs
  have b5 : (s : Int) ≤ 2147483647 := by omega
  have c1 : (k : Int) < 1024 := by omega
  have c2 : ((s % 2048 : Nat) : Int) < 2048 := by omega
  have c3 : (0 : Int) ≤ ((s % 2048 : Nat) : Int) := by omega
  generalize s % 2048 = i at *
  clear hk
  cases pg with
  | some P =>
    have h1 := h.top
    have g1 := h.page P rfl
    obtain ⟨h2, z2⟩ := h.cell P rfl k hk2
    simp only [Option.map_some] at h1
    cases hc : ch k with
    | some c =>
      rw [hc] at h2
      have g2 := h.chunk k c hc
      simp only [Option.map_some] at h2
      replace hc : Hid _ := hc
      replace h : Hid _ := h
      go_enter Ybaf.func26, Ybaf.ntmps26
      go_wp2_with (first
        | (go_at_call 40; refine (makePage_some T A P w h1 g1).mono ?_; rintro e w' ⟨rfl, rfl⟩)
        | (go_at_call 41; refine (makeChunk_some P k c _ h2 g2).mono ?_; rintro e w' ⟨rfl, rfl⟩))
      go_ret
      exact ⟨P, c, ch, by go_num, h.out, hc.out, fun _ _ => rfl, .inl rfl, .inl rfl, Fr.refl _ _, fun _ _ => ⟨rfl, rfl⟩⟩
    | none =>
      rw [hc] at h2
      simp only [Option.map_none] at h2
      have hTP : T ≠ P := by
        obtain ⟨e, n, hsh, _, _⟩ := World.shape?_of_cell? h.top
        exact shape_ne hsh g1 (hT e n hsh).1
      obtain ⟨a1, a2, a3⟩ := h.add zc91 sizeChunk hTP hk2 hc
      have hPz : P < w.heap.size := shape_lt g1
      replace hc : Hid _ := hc
      replace a1 : Hid _ := a1
      replace a2 : Hid _ := a2
      replace a3 : Hid _ := a3
      replace h : Hid _ := h
      go_enter Ybaf.func26, Ybaf.ntmps26
      go_wp2_with (first
        | (go_at_call 40; refine (makePage_some T A P w h1 g1).mono ?_; rintro e w' ⟨rfl, rfl⟩)
        | (go_at_call 41; refine (makeChunk_none P k _ h2 z2).mono ?_; rintro e w2 ⟨rfl, hw2⟩; replace hw2 : Hid _ := hw2))
      go_ret
      obtain rfl := hw2.out
      refine ⟨P, _, _, by go_num, a1.out, by simp, fun j hj => by simp [hj], .inl rfl, .inr ⟨by first | trivial | exact hc.out, Nat.le_refl _, a3.out⟩, a2.out.mono (fun b _ e => .inr (by rw [e])), fun off _ => ⟨?_, ?_⟩⟩
      · exact World.cell?_of_block (a := ⟨T, off, none⟩) (a2.out.block T (World.block_lt_of_cell? _ _ h1) hTP)
      · exact World.frozen?_of_block (a := ⟨T, off, none⟩) (a2.out.block T (World.block_lt_of_cell? _ _ h1) hTP)
  | none =>
    have h1 := h.top
    have z1 := h.topz
    simp only [Option.map_none] at h1
    have hTl : T < w.heap.size := World.block_lt_of_cell? _ _ h1
    have hc := h.none_ rfl k
    obtain ⟨a1, a2, a3⟩ := h.addPage zc88 sizePage zc88_at
    obtain ⟨w1, hw1⟩ : ∃ w1, w1 = (w.alloc (.cells zc88 88)).setCell ⟨T, A, none⟩ (.pointer (some ⟨w.heap.size, 0, none⟩)) := ⟨_, rfl⟩
    rw [← hw1] at a1 a2 a3
    obtain ⟨h2, z2⟩ := a1.cell _ rfl k hk2
    rw [hc] at h2
    simp only [Option.map_none] at h2
    obtain ⟨d1, d2, d3⟩ := a1.add zc91 sizeChunk (by omega) hk2 hc
    replace hc : Hid _ := hc
    replace hw1 : Hid _ := hw1
    replace a1 : Hid _ := a1
    replace a2 : Hid _ := a2
    replace a3 : Hid _ := a3
    replace d1 : Hid _ := d1
    replace d2 : Hid _ := d2
    replace d3 : Hid _ := d3
    replace h : Hid _ := h
    go_enter Ybaf.func26, Ybaf.ntmps26
    go_wp2_with (first
      | (go_at_call 40; refine (makePage_none T A w h1 z1).mono ?_; rintro e w' ⟨rfl, hw'⟩; have e1 := hw'.trans hw1.out.symm; clear hw'; subst e1)
      | (go_at_call 41; refine (makeChunk_none w.heap.size k _ h2 z2).mono ?_; rintro e w2 ⟨rfl, hw2⟩; replace hw2 : Hid _ := hw2))
    go_ret
    obtain rfl := hw2.out
    refine ⟨_, _, _, by go_num, d1.out, by simp, fun j hj => by simp [hj], .inr ⟨by first | trivial | rfl, Nat.le_refl _⟩, .inr ⟨by first | trivial | exact hc.out, a2.out.size, d3.out⟩, (a2.out.mono (fun b _ e => .inl e)).trans' d2.out (fun b hb e => by omega), fun off ho => ⟨?_, ?_⟩⟩
    · exact (World.cell?_of_block (a := ⟨T, off, none⟩) (d2.out.block T (Nat.lt_of_lt_of_le hTl a2.out.size) (by omega))).trans (a3.out off ho).1
    · exact (World.frozen?_of_block (a := ⟨T, off, none⟩) (d2.out.block T (Nat.lt_of_lt_of_le hTl a2.out.size) (by omega))).trans (a3.out off ho).2

/-! ### Far -/
set_option maxRecDepth 100000 in
theorem atFar (T A pg c s : Nat) (w : World) (hs : s < 4096) (h1 : w.cell? ⟨T, A, none⟩ = some (.pointer (some ⟨pg, 0, none⟩))) (g1 : w.shape? pg = some (127, 1024))
    (h2 : w.cell? ⟨pg, s / 2048, none⟩ = some (.pointer (some ⟨c, 0, none⟩))) (g2 : w.shape? c = some (131, 2048)) :
    Calls Ybaf.prog 47 #[.pointer (some ⟨T, A, none⟩), .int .u32 s] w fun e w' => e = .returned (.pointer (some ⟨c, s % 2048, none⟩)) ∧ w' = w := by
  obtain ⟨k, hk⟩ : ∃ k, s / 2048 = k := ⟨_, rfl⟩
  have hk2 : k < 2 := by omega
  rw [hk] at h2
  have b1 : (s : Int) / 2097152 = 0 := by omega
  have b2 : (s : Int) / 2048 = (k : Int) := by omega
  have b3 := bits_1023 k hk2
  have b4 := bits_2047 s hs
  have c1 : (k : Int) < 1024 := by omega
  have c2 : ((s % 2048 : Nat) : Int) < 2048 := by omega
  have c3 : (0 : Int) ≤ ((s % 2048 : Nat) : Int) := by omega
  generalize s % 2048 = i at *
  clear hk
  go_enter Ybaf.func47, Ybaf.ntmps47
  go_wp2_with (first
    | (go_at_call 52; refine (loadFPage_some T A pg w h1 g1).mono ?_; rintro e w' ⟨rfl, rfl⟩)
    | (go_at_call 54; refine (loadFChunk_some pg k c _ h2 g2).mono ?_; rintro e w' ⟨rfl, rfl⟩))
  go_ret
  exact ⟨by go_num, rfl⟩

set_option maxRecDepth 100000 in
theorem makeFar (T A s : Nat) (pg : Option Nat) (ch : Nat → Option Nat) (w : World) (hs : s < 4096) (h : Ar 127 131 2048 w T A pg ch) (hT : ∀ e n, w.shape? T = some (e, n) → e ≠ 127 ∧ e ≠ 131) :
    Calls Ybaf.prog 28 #[.pointer (some ⟨T, A, none⟩), .int .u32 s] w fun e w' => ∃ P c ch', e = .returned (.pointer (some ⟨c, s % 2048, none⟩)) ∧ Ar 127 131 2048 w' T A (some P) ch' ∧
      ch' (s / 2048) = some c ∧ (∀ k, k ≠ s / 2048 → ch' k = ch k) ∧ (pg = some P ∨ pg = none ∧ w.heap.size ≤ P) ∧
      (ch (s / 2048) = some c ∨ ch (s / 2048) = none ∧ w.heap.size ≤ c ∧ w'.heap[c]? = some (.cells zc131 131)) ∧ Fr (fun b => b = T ∨ pg = some b) w w' ∧
      (∀ off, off ≠ A → w'.cell? ⟨T, off, none⟩ = w.cell? ⟨T, off, none⟩ ∧ w'.frozen? ⟨T, off, none⟩ = w.frozen? ⟨T, off, none⟩) := by
  obtain ⟨k, hk⟩ : ∃ k, s / 2048 = k := ⟨_, rfl⟩
  have hk2 : k < 2 := by omega
  rw [hk]
  have b1 : (s : Int) / 2097152 = 0 := by omega
  have b2 : (s : Int) / 2048 = (k : Int) := by omega
  have b3 := bits_1023 k hk2
  have b4 := bits_2047 s hs
  have b5 : (s : Int) ≤ 2147483647 := by omega
  have c1 : (k : Int) < 1024 := by omega
  have c2 : ((s % 2048 : Nat) : Int) < 2048 := by omega
  have c3 : (0 : Int) ≤ ((s % 2048 : Nat) : Int) := by omega
  generalize s % 2048 = i at *
  clear hk
  cases pg with
  | some P =>
    have h1 := h.top
    have g1 := h.page P rfl
    obtain ⟨h2, z2⟩ := h.cell P rfl k hk2
    simp only [Option.map_some] at h1
    cases hc : ch k with
    | some c =>
      rw [hc] at h2
      have g2 := h.chunk k c hc
      simp only [Option.map_some] at h2
      replace hc : Hid _ := hc
      replace h : Hid _ := h
      go_enter Ybaf.func28, Ybaf.ntmps28
      go_wp2_with (first
        | (go_at_call 42; refine (makeFPage_some T A P w h1 g1).mono ?_; rintro e w' ⟨rfl, rfl⟩)
        | (go_at_call 43; refine (makeFChunk_some P k c _ h2 g2).mono ?_; rintro e w' ⟨rfl, rfl⟩))
      go_ret
      exact ⟨P, c, ch, by go_num, h.out, hc.out, fun _ _ => rfl, .inl rfl, .inl rfl, Fr.refl _ _, fun _ _ => ⟨rfl, rfl⟩⟩
    | none =>
      rw [hc] at h2
      simp only [Option.map_none] at h2
      have hTP : T ≠ P := by
        obtain ⟨e, n, hsh, _, _⟩ := World.shape?_of_cell? h.top
        exact shape_ne hsh g1 (hT e n hsh).1
      obtain ⟨a1, a2, a3⟩ := h.add zc131 sizeFChunk hTP hk2 hc
      have hPz : P < w.heap.size := shape_lt g1
      replace hc : Hid _ := hc
      replace a1 : Hid _ := a1
      replace a2 : Hid _ := a2
      replace a3 : Hid _ := a3
      replace h : Hid _ := h
      go_enter Ybaf.func28, Ybaf.ntmps28
      go_wp2_with (first
        | (go_at_call 42; refine (makeFPage_some T A P w h1 g1).mono ?_; rintro e w' ⟨rfl, rfl⟩)
        | (go_at_call 43; refine (makeFChunk_none P k _ h2 z2).mono ?_; rintro e w2 ⟨rfl, hw2⟩; replace hw2 : Hid _ := hw2))
      go_ret
      obtain rfl := hw2.out
      refine ⟨P, _, _, by go_num, a1.out, by simp, fun j hj => by simp [hj], .inl rfl, .inr ⟨by first | trivial | exact hc.out, Nat.le_refl _, a3.out⟩, a2.out.mono (fun b _ e => .inr (by rw [e])), fun off _ => ⟨?_, ?_⟩⟩
      · exact World.cell?_of_block (a := ⟨T, off, none⟩) (a2.out.block T (World.block_lt_of_cell? _ _ h1) hTP)
      · exact World.frozen?_of_block (a := ⟨T, off, none⟩) (a2.out.block T (World.block_lt_of_cell? _ _ h1) hTP)
  | none =>
    have h1 := h.top
    have z1 := h.topz
    simp only [Option.map_none] at h1
    have hTl : T < w.heap.size := World.block_lt_of_cell? _ _ h1
    have hc := h.none_ rfl k
    obtain ⟨a1, a2, a3⟩ := h.addPage zc127 sizeFPage zc127_at
    obtain ⟨w1, hw1⟩ : ∃ w1, w1 = (w.alloc (.cells zc127 127)).setCell ⟨T, A, none⟩ (.pointer (some ⟨w.heap.size, 0, none⟩)) := ⟨_, rfl⟩
    rw [← hw1] at a1 a2 a3
    obtain ⟨h2, z2⟩ := a1.cell _ rfl k hk2
    rw [hc] at h2
    simp only [Option.map_none] at h2
    obtain ⟨d1, d2, d3⟩ := a1.add zc131 sizeFChunk (by omega) hk2 hc
    replace hc : Hid _ := hc
    replace hw1 : Hid _ := hw1
    replace a1 : Hid _ := a1
    replace a2 : Hid _ := a2
    replace a3 : Hid _ := a3
    replace d1 : Hid _ := d1
    replace d2 : Hid _ := d2
    replace d3 : Hid _ := d3
    replace h : Hid _ := h
    go_enter Ybaf.func28, Ybaf.ntmps28
    go_wp2_with (first
      | (go_at_call 42; refine (makeFPage_none T A w h1 z1).mono ?_; rintro e w' ⟨rfl, hw'⟩; have e1 := hw'.trans hw1.out.symm; clear hw'; subst e1)
      | (go_at_call 43; refine (makeFChunk_none w.heap.size k _ h2 z2).mono ?_; rintro e w2 ⟨rfl, hw2⟩; replace hw2 : Hid _ := hw2))
    go_ret
    obtain rfl := hw2.out
    refine ⟨_, _, _, by go_num, d1.out, by simp, fun j hj => by simp [hj], .inr ⟨by first | trivial | rfl, Nat.le_refl _⟩, .inr ⟨by first | trivial | exact hc.out, a2.out.size, d3.out⟩, (a2.out.mono (fun b _ e => .inl e)).trans' d2.out (fun b hb e => by omega), fun off ho => ⟨?_, ?_⟩⟩
    · exact (World.cell?_of_block (a := ⟨T, off, none⟩) (d2.out.block T (Nat.lt_of_lt_of_le hTl a2.out.size) (by omega))).trans (a3.out off ho).1
    · exact (World.frozen?_of_block (a := ⟨T, off, none⟩) (d2.out.block T (Nat.lt_of_lt_of_le hTl a2.out.size) (by omega))).trans (a3.out off ho).2
end Go.Proofs.YbulkbjwiFmt
