/-
  SEAT b3037aF: walk, All and the closures that collect.
-/
import Derived.Test.YbulkbjwiFmtBuild
import Derived.Laws.EntriesVeiled
namespace Go.Proofs.YbulkbjwiFmt
open Go.RowKit
attribute [local go_sem ↓] Go.wp_at_zero Go.wp_at_succ

/-- The value of a link, and the tree that it names. -/
def IsV (w : World) (ch : Nat → Option Nat) (r : Nat) : BT → Prop
  | .nil => r = 0
  | .node s l q => r = s ∧ 0 < s ∧ s < 4096 ∧ ∃ c, ch (s / 2048) = some c ∧ IsT w ch (kid c s 0) l ∧ IsT w ch (kid c s 1) q
theorem IsT.val {w : World} {ch : Nat → Option Nat} {a : Addr} {t : BT} (h : IsT w ch a t) : ∃ r : Nat, w.cell? a = some (.int .u32 r) ∧ IsV w ch r t := by
  cases t with
  | nil => unfold IsT at h; exact ⟨0, h, rfl⟩
  | node s l q => unfold IsT at h; exact ⟨s, h.1, rfl, h.2⟩
theorem IsV.kept {w w' : World} {ch : Nat → Option Nat} {r : Nat} {t : BT} (h : IsV w ch r t) (hc : ∀ s, ∀ c, ch (s / 2048) = some c → ∀ side, side < 2 → w'.cell? (kid c s side) = w.cell? (kid c s side)) : IsV w' ch r t := by
  cases t with
  | nil => exact h
  | node s l q =>
    obtain ⟨h1, h2, h3, c, h4, h5, h6⟩ := h
    exact ⟨h1, h2, h3, c, h4, h5.kept (fun _ _ e => e) hc (hc s c h4 0 (by omega)), h6.kept (fun _ _ e => e) hc (hc s c h4 1 (by omega))⟩

/-- What a walk collects on to L, and whether it came to its end. -/
def pre (more : List Nat → Bool) : List Nat → BT → List Nat × Bool
  | L, .nil => (L, true)
  | L, .node s l r => if more (L ++ [s]) then (if (pre more (L ++ [s]) l).2 then pre more (pre more (L ++ [s]) l).1 r else pre more (L ++ [s]) l) else (L ++ [s], false)
theorem pre_len (more : List Nat → Bool) : ∀ (t : BT) (L : List Nat), (pre more L t).1.length ≤ L.length + t.slots.length
  | .nil, L => by simp [pre, BT.slots]
  | .node s l r, L => by
    have h1 := pre_len more l (L ++ [s])
    have h2 := pre_len more r (pre more (L ++ [s]) l).1
    simp only [List.length_append, List.length_cons, List.length_nil] at h1
    simp only [pre, BT.slots, List.length_cons, List.length_append]
    split
    · split <;> omega
    · simp only [List.length_append, List.length_cons, List.length_nil]; omega
theorem pre_all : ∀ (t : BT) (L : List Nat), pre (fun _ => true) L t = (L ++ t.slots, true)
  | .nil, L => by simp [pre, BT.slots]
  | .node s l r, L => by simp [pre, BT.slots, pre_all l, pre_all r]
theorem pre_stop (m : Nat) : ∀ (t : BT) (L : List Nat), L.length < m → pre (fun K => decide (K.length < m)) L t = ((L ++ t.slots).take m, decide (L.length + t.slots.length < m))
  | .nil, L, h => by simp [pre, BT.slots, h, List.take_of_length_le (Nat.le_of_lt h)]
  | .node s l r, L, h => by
    simp only [pre, BT.slots, List.length_append, List.length_cons, List.length_nil]
    by_cases h1 : L.length + 1 < m
    · have hl := pre_stop m l (L ++ [s]) (by simpa using h1)
      simp only [List.length_append, List.length_cons, List.length_nil] at hl
      rw [hl]
      simp only [show decide (L.length + (0 + 1) < m) = true from by simpa using h1, if_true]
      by_cases h2 : L.length + (0 + 1) + l.slots.length < m
      · have e : (L ++ [s] ++ l.slots).take m = L ++ [s] ++ l.slots := List.take_of_length_le (by simp; omega)
        rw [e]
        have hr := pre_stop m r (L ++ [s] ++ l.slots) (by simp; omega)
        rw [hr]
        simp only [show decide (L.length + (0 + 1) + l.slots.length < m) = true from by simpa using h2, if_true]
        refine Prod.ext ?_ ?_
        · simp
        · simp; omega
      · simp only [show decide (L.length + (0 + 1) + l.slots.length < m) = false from by simpa using h2, Bool.false_eq_true, if_false]
        refine Prod.ext ?_ ?_
        · have : m ≤ (L ++ [s] ++ l.slots).length := by simp; omega
          show List.take m (L ++ [s] ++ l.slots) = List.take m (L ++ s :: (l.slots ++ r.slots))
          rw [show L ++ s :: (l.slots ++ r.slots) = (L ++ [s] ++ l.slots) ++ r.slots by simp, List.take_append_of_le_length this]
        · simp; omega
    · have hm : m = L.length + 1 := by omega
      simp only [show decide (L.length + (0 + 1) < m) = false from by simpa using h1, Bool.false_eq_true, if_false]
      refine Prod.ext ?_ ?_
      · show L ++ [s] = List.take m (L ++ s :: (l.slots ++ r.slots))
        rw [show L ++ s :: (l.slots ++ r.slots) = (L ++ [s]) ++ (l.slots ++ r.slots) by simp, List.take_append_of_le_length (by simp; omega), List.take_of_length_le (by simp; omega)]
      · simp; omega

/-- Variable G holds a slice of the slots L; its row lies from B2 on. -/
def Col (w : World) (G B2 : Nat) (L : List Nat) : Prop :=
  ∃ v, w.cell? ⟨G, 0, none⟩ = some v ∧ w.frozen? ⟨G, 0, none⟩ = false ∧ w.shape? G = some (24, 1) ∧ w.ownsRow B2 30 1 v L.length (L.map fun s : Nat => .int .u32 (s : Int))
/-- As 'Fr', with nothing said of what is owned. -/
structure Fl (own : Nat → Prop) (w w' : World) : Prop where
  os : w'.os = w.os
  tape : w'.tape = w.tape
  output : w'.output = w.output
  size : w.heap.size ≤ w'.heap.size
  block : ∀ b, b < w.heap.size → ¬ own b → w'.heap[b]? = w.heap[b]?
theorem Fl.refl (own : Nat → Prop) (w : World) : Fl own w w := ⟨rfl, rfl, rfl, Nat.le_refl _, fun _ _ _ => rfl⟩
theorem Fl.trans {own own' : Nat → Prop} {a b c : World} (h : Fl own a b) (k : Fl own' b c) (hw : ∀ i, i < a.heap.size → ¬ own i → ¬ own' i) : Fl own a c :=
  ⟨k.os.trans h.os, k.tape.trans h.tape, k.output.trans h.output, Nat.le_trans h.size k.size, fun i hi hn => (k.block i (Nat.lt_of_lt_of_le hi h.size) (hw i hi hn)).trans (h.block i hi hn)⟩
theorem Fr.fl {own : Nat → Prop} {w w' : World} (h : Fr own w w') : Fl own w w' := ⟨h.os, h.tape, h.output, h.size, h.block⟩
theorem Fl.cell {own : Nat → Prop} {w w' : World} (h : Fl own w w') {b off : Nat} {v : Value} (hc : w.cell? ⟨b, off, none⟩ = some v) (hn : ¬ own b) : w'.cell? ⟨b, off, none⟩ = some v :=
  (World.cell?_of_block (a := ⟨b, off, none⟩) (h.block b (World.block_lt_of_cell? _ _ hc) hn)).trans hc
theorem Fl.froz {own : Nat → Prop} {w w' : World} (h : Fl own w w') {b off : Nat} {v : Value} (hc : w.cell? ⟨b, off, none⟩ = some v) (hz : w.frozen? ⟨b, off, none⟩ = false) (hn : ¬ own b) : w'.frozen? ⟨b, off, none⟩ = false :=
  (World.frozen?_of_block (a := ⟨b, off, none⟩) (h.block b (World.block_lt_of_cell? _ _ hc) hn)).trans hz
theorem Fl.sh {own : Nat → Prop} {w w' : World} (h : Fl own w w') {b : Nat} {x : TypeId × Nat} (hs : w.shape? b = some x) (hn : ¬ own b) : w'.shape? b = some x :=
  (shape_of_block (h.block b (shape_lt hs) hn)).trans hs
theorem Fl.below {own : Nat → Prop} {w w' : World} {B : Nat} (h : Fl own w w') (hB : B ≤ w.heap.size) (ho : ∀ b, own b → B ≤ b) : Below B w w' :=
  ⟨h.os, h.tape, h.output, h.size, fun b hb => h.block b (by omega) (fun h1 => by have := ho b h1; omega)⟩

theorem Mem.fl {w w' : World} {B T AX d cap : Nat} {pg fp : Option Nat} {ch fc : Nat → Option Nat} {t : BT} {own : Nat → Prop} (h : Mem w B T AX d cap pg ch fp fc t) (hf : Fl own w w') (hn : Free w own) : Mem w' B T AX d cap pg ch fp fc t := by
  have nT : ¬ own T := fun ho => hn T ho _ _ h.shT (by unfold Kind; omega)
  obtain ⟨mA, hA⟩ := h.shA
  have nA : ¬ own AX := fun ho => hn AX ho _ _ hA (by unfold Kind; omega)
  have nP : ∀ P, pg = some P → ¬ own P := fun P e ho => hn P ho _ _ (h.nd.page P e) (by unfold Kind; omega)
  have nF : ∀ P, fp = some P → ¬ own P := fun P e ho => hn P ho _ _ (h.far.page P e) (by unfold Kind; omega)
  have nC : ∀ k c, ch k = some c → ¬ own c := fun k c e ho => hn c ho _ _ (h.nd.chunk k c e) (by unfold Kind; omega)
  have nD : ∀ k c, fc k = some c → ¬ own c := fun k c e ho => hn c ho _ _ (h.far.chunk k c e) (by unfold Kind; omega)
  have hblk : ∀ k c, ch k = some c → w'.heap[c]? = w.heap[c]? := fun k c e => hf.block c (shape_lt (h.nd.chunk k c e)) (nC k c e)
  have hTb : w'.heap[T]? = w.heap[T]? := hf.block T (shape_lt h.shT) nT
  refine ⟨h.d0, h.d3, hf.sh h.shT nT, ⟨mA, hf.sh hA nA⟩, h.geT, h.gep, h.gec, h.gef, h.gefc, h.ax.kept (World.cell?_of_block (a := ⟨T, 0, none⟩) hTb) (hf.block AX (shape_lt hA) nA), ?_, ?_, h.inj, h.finj, ?_, ?_, ?_, ?_, ?_, h.nodup, ?_, ?_⟩
  · refine ⟨hf.cell h.nd.top nT, hf.froz h.nd.top h.nd.topz nT, fun P e => hf.sh (h.nd.page P e) (nP P e), fun P e k hk => ?_, fun k c e => hf.sh (h.nd.chunk k c e) (nC k c e), h.nd.none_⟩
    obtain ⟨h1, h2⟩ := h.nd.cell P e k hk
    exact ⟨hf.cell h1 (nP P e), hf.froz h1 h2 (nP P e)⟩
  · refine ⟨hf.cell h.far.top nT, hf.froz h.far.top h.far.topz nT, fun P e => hf.sh (h.far.page P e) (nF P e), fun P e k hk => ?_, fun k c e => hf.sh (h.far.chunk k c e) (nD k c e), h.far.none_⟩
    obtain ⟨h1, h2⟩ := h.far.cell P e k hk
    exact ⟨hf.cell h1 (nF P e), hf.froz h1 h2 (nF P e)⟩
  · intro s hs hm c hc
    obtain ⟨h1, h2⟩ := h.kz s hs hm c hc
    exact ⟨hf.cell h1 (nC _ c hc), hf.cell h2 (nC _ c hc)⟩
  · intro s c hc side hside
    exact (World.frozen?_of_block (a := kid c s side) (hblk _ c hc)).trans (h.kf s c hc side hside)
  · intro s c hc j hj
    obtain ⟨x, h1, h2⟩ := h.inl s c hc j hj
    exact ⟨x, hf.cell h1 (nC _ c hc), hf.froz h1 h2 (nC _ c hc)⟩
  · exact (World.frozen?_of_block (a := ⟨T, 1, none⟩) hTb).trans h.rootz
  · exact h.root.kept (fun _ _ e => e) (fun s c hc side _ => World.cell?_of_block (a := kid c s side) (hblk _ c hc)) (World.cell?_of_block (a := ⟨T, 1, none⟩) hTb)
  · intro e s hs
    obtain ⟨c, q, cp, m, h1, h2, h3, h4, h5⟩ := h.pts e s hs
    have nq : ¬ own q := fun ho => hn q ho _ _ h4 (by unfold Kind; omega)
    refine ⟨c, q, cp, m, h1, hf.cell h2 (nD _ c h1), h3, hf.sh h4 nq, fun j hj => ?_⟩
    obtain ⟨x, hx⟩ := h5 j hj
    exact ⟨x, hf.cell hx nq⟩
  · intro s c hc
    obtain ⟨v, h1, h2⟩ := h.fok s c hc
    exact ⟨v, hf.cell h1 (nD _ c hc), hf.froz h1 h2 (nD _ c hc)⟩

def OwnG (G B2 : Nat) (w : World) (b : Nat) : Prop := b = G ∨ B2 ≤ b ∧ ∃ n, w.shape? b = some (30, n)
theorem Fl.ownG {G B2 : Nat} {a b c : World} (h : Fl (OwnG G B2 a) a b) (k : Fl (OwnG G B2 b) b c) : Fl (OwnG G B2 a) a c := by
  refine h.trans k (fun i hi hn h1 => ?_)
  rcases h1 with h1 | ⟨h0, n, h1⟩
  · exact hn (.inl h1)
  · exact hn (.inr ⟨h0, n, (shape_of_block (h.block i hi hn)).symm.trans h1⟩)
theorem freeG {w : World} {G B2 : Nat} (hG : w.shape? G = some (24, 1)) : Free w (OwnG G B2 w) := by
  rintro b (rfl | ⟨_, n, h1⟩) e m h
  · rw [hG] at h; cases h; unfold Kind; decide
  · rw [h1] at h; cases h; unfold Kind; decide

/-- Behind the append, and behind the store into the variable. -/
theorem collect {w w1 : World} {G B2 s : Nat} {L : List Nat} {v v' u : Value} {o : Obj} (hc : w.cell? ⟨G, 0, none⟩ = some u) (hz : w.frozen? ⟨G, 0, none⟩ = false) (hsh : w.shape? G = some (24, 1)) (hGl : G < w.heap.size) (hnotG : v.ownBlock ≠ some G)
    (hownsh : ∀ b, v.ownBlock = some b → B2 ≤ b ∧ ∃ n, w.shape? b = some (30, n)) (hG : G < B2)
    (hown1 : w1.ownsRow B2 30 1 v' (L.length + 1) ((L.map fun s : Nat => .int .u32 (s : Int)) ++ [.int .u32 s])) (hg : (w.alloc o).grownBy w1 v.ownBlock) :
    w1.cell? ⟨G, 0, none⟩ = some u ∧ w1.frozen? ⟨G, 0, none⟩ = false ∧ Col (w1.setCell ⟨G, 0, none⟩ v') G B2 (L ++ [s]) ∧ Fl (OwnG G B2 w) w (w1.setCell ⟨G, 0, none⟩ v') := by
  have hb : w1.heap[G]? = w.heap[G]? := (hg.block G (by simp; omega) (fun e => hnotG e.symm)).trans (Below.heap_alloc w o G hGl)
  have c1 : w1.cell? ⟨G, 0, none⟩ = some u := (World.cell?_of_block (a := ⟨G, 0, none⟩) hb).trans hc
  have z1 : w1.frozen? ⟨G, 0, none⟩ = false := (World.frozen?_of_block (a := ⟨G, 0, none⟩) hb).trans hz
  refine ⟨c1, z1, ⟨v', World.cell?_setCell_same _ _ _ c1, by rw [World.frozen?_setCell]; exact z1, by rw [shape_setCell]; exact (shape_of_block hb).trans hsh, ?_⟩, ?_⟩
  · have hgs : w1.grownBy (w1.setCell ⟨G, 0, none⟩ v') (some G) := ⟨rfl, rfl, rfl, by simp [World.setCell], fun k _ hne => heap_setCell_other _ _ _ _ (by rintro rfl; exact hne rfl)⟩
    have := hown1.kept hgs (.inr (by intro e; have := (hown1.lt G e).1; omega))
    simpa using this
  · have f1 : Fl (OwnG G B2 w) w w1 := by
      refine ⟨hg.os, hg.tape, hg.output, by have := hg.size; simp at this; omega, fun b hb hn => ?_⟩
      refine (hg.block b (by simp; omega) (fun e => hn (.inr (hownsh b e.symm)))).trans (Below.heap_alloc w o b hb)
    exact f1.trans (Fr.setCell (fun b => b = G) w1 ⟨G, 0, none⟩ v' rfl).fl (fun i _ hn e => hn (.inl e))

set_option maxRecDepth 100000 in
set_option maxHeartbeats 2000000 in
/-- The closure that collects, and goes on. -/
theorem app7 (G B2 s : Nat) (L : List Nat) (w : World) (h : Col w G B2 L) (hL : L.length ≤ 1000) (hB : B2 ≤ w.heap.size) (hG : G < B2) :
    Calls Ybaf.prog 7 #[.int .u32 s, .pointer (some ⟨G, 0, none⟩)] w fun e w' => e = .returned (.bool true) ∧ Col w' G B2 (L ++ [s]) ∧ Fl (OwnG G B2 w) w w' := by
  obtain ⟨v, hc, hz, hsh, hown⟩ := h
  obtain ⟨i0, hi, hz0, hz1, hz2⟩ := info30
  have hvs : ∃ a l c, v = .slice a l c := by
    rcases hown.2 with ⟨rfl, _⟩ | ⟨g, cap, cur, rfl, _⟩ <;> exact ⟨_, _, _, rfl⟩
  obtain ⟨av, lv, cv, rfl⟩ := hvs
  have hGl : G < w.heap.size := shape_lt hsh
  have hnotG : (Value.slice av lv cv).ownBlock ≠ some G := by
    intro e
    have := (hown.lt G e).1
    omega
  have hownsh : ∀ b, (Value.slice av lv cv).ownBlock = some b → B2 ≤ b ∧ ∃ n, w.shape? b = some (30, n) := by
    intro b e
    refine ⟨(hown.lt b e).1, ?_⟩
    rcases hown.2 with ⟨e2, _⟩ | ⟨g, cap, cur, e2, _, h3, _⟩
    · rw [e2] at e; cases e
    · rw [e2] at e; cases e
      exact ⟨_, by unfold World.shape?; rw [h3]⟩
  have hown0 : Hid _ := hown
  clear hown
  go_enter Ybaf.func7, Ybaf.ntmps7
  go_wp2_with (at_builtin; refine wpList_append_own _ rfl _ _ 24 rfl B2 30 i0 (.int .u32 0) 1 4 Ybaf.underlying24 hi hz0 hz1 hz2 rfl (by decide) _ _ _ rfl (World.ownsRow.alloc hown0.out _) ⟨w.heap.size, 0, none⟩ 1 1 [.int .u32 s] rfl rfl ?qc2 ?qc3 ?qc4 ?qc5 ?qc6 ?_)
  case qc2 =>
    intro j u hj
    cases j with
    | zero =>
      simp at hj
      subst hj
      rw [Addr.add_lit]
      exact cellNew _ _ _ _ _ rfl
    | succ j => simp at hj
  case qc3 => intro u hu; simp at hu; subst hu; rfl
  case qc4 => unfold maxLen; omega
  case qc5 => omega
  case qc6 => simp; omega
  intro v' w1 hown1 hgrow hnil
  obtain ⟨g1, cap1, rfl, hg1, hcap1, hsh1, hcl1, hfz1⟩ := owns_cells hown1 hnil
  obtain ⟨k1, k2, k3, k4⟩ := collect hc hz hsh hGl hnotG hownsh hG hown1 hgrow
  replace hown1 : Hid _ := hown1
  replace hgrow : Hid _ := hgrow
  replace k3 : Hid _ := k3
  replace k4 : Hid _ := k4
  clear hcl1 hfz1
  go_wp2_with fail
  go_ret
  exact ⟨rfl, k3.out, k4.out⟩
set_option maxRecDepth 100000 in
set_option maxHeartbeats 2000000 in
/-- The closure that collects, and goes on. -/
theorem app12 (G B2 s : Nat) (L : List Nat) (w : World) (h : Col w G B2 L) (hL : L.length ≤ 1000) (hB : B2 ≤ w.heap.size) (hG : G < B2) :
    Calls Ybaf.prog 12 #[.int .u32 s, .pointer (some ⟨G, 0, none⟩)] w fun e w' => e = .returned (.bool true) ∧ Col w' G B2 (L ++ [s]) ∧ Fl (OwnG G B2 w) w w' := by
  obtain ⟨v, hc, hz, hsh, hown⟩ := h
  obtain ⟨i0, hi, hz0, hz1, hz2⟩ := info30
  have hvs : ∃ a l c, v = .slice a l c := by
    rcases hown.2 with ⟨rfl, _⟩ | ⟨g, cap, cur, rfl, _⟩ <;> exact ⟨_, _, _, rfl⟩
  obtain ⟨av, lv, cv, rfl⟩ := hvs
  have hGl : G < w.heap.size := shape_lt hsh
  have hnotG : (Value.slice av lv cv).ownBlock ≠ some G := by
    intro e
    have := (hown.lt G e).1
    omega
  have hownsh : ∀ b, (Value.slice av lv cv).ownBlock = some b → B2 ≤ b ∧ ∃ n, w.shape? b = some (30, n) := by
    intro b e
    refine ⟨(hown.lt b e).1, ?_⟩
    rcases hown.2 with ⟨e2, _⟩ | ⟨g, cap, cur, e2, _, h3, _⟩
    · rw [e2] at e; cases e
    · rw [e2] at e; cases e
      exact ⟨_, by unfold World.shape?; rw [h3]⟩
  have hown0 : Hid _ := hown
  clear hown
  go_enter Ybaf.func12, Ybaf.ntmps12
  go_wp2_with (at_builtin; refine wpList_append_own _ rfl _ _ 24 rfl B2 30 i0 (.int .u32 0) 1 4 Ybaf.underlying24 hi hz0 hz1 hz2 rfl (by decide) _ _ _ rfl (World.ownsRow.alloc hown0.out _) ⟨w.heap.size, 0, none⟩ 1 1 [.int .u32 s] rfl rfl ?qc2 ?qc3 ?qc4 ?qc5 ?qc6 ?_)
  case qc2 =>
    intro j u hj
    cases j with
    | zero =>
      simp at hj
      subst hj
      rw [Addr.add_lit]
      exact cellNew _ _ _ _ _ rfl
    | succ j => simp at hj
  case qc3 => intro u hu; simp at hu; subst hu; rfl
  case qc4 => unfold maxLen; omega
  case qc5 => omega
  case qc6 => simp; omega
  intro v' w1 hown1 hgrow hnil
  obtain ⟨g1, cap1, rfl, hg1, hcap1, hsh1, hcl1, hfz1⟩ := owns_cells hown1 hnil
  obtain ⟨k1, k2, k3, k4⟩ := collect hc hz hsh hGl hnotG hownsh hG hown1 hgrow
  replace hown1 : Hid _ := hown1
  replace hgrow : Hid _ := hgrow
  replace k3 : Hid _ := k3
  replace k4 : Hid _ := k4
  clear hcl1 hfz1
  go_wp2_with fail
  go_ret
  exact ⟨rfl, k3.out, k4.out⟩
set_option maxRecDepth 100000 in
set_option maxHeartbeats 2000000 in
/-- The closure that collects, and stops at m. -/
theorem app13 (G B2 s M m : Nat) (L : List Nat) (w : World) (h : Col w G B2 L) (hL : L.length ≤ 1000) (hB : B2 ≤ w.heap.size) (hG : G < B2) (hm : w.cell? ⟨M, 0, none⟩ = some (.int .i64 m)) (hMG : M ≠ G) (hMB : M < B2) :
    Calls Ybaf.prog 13 #[.int .u32 s, .pointer (some ⟨G, 0, none⟩), .pointer (some ⟨M, 0, none⟩)] w fun e w' => e = .returned (.bool (decide ((L ++ [s]).length < m))) ∧ Col w' G B2 (L ++ [s]) ∧ Fl (OwnG G B2 w) w w' := by
  obtain ⟨v, hc, hz, hsh, hown⟩ := h
  obtain ⟨i0, hi, hz0, hz1, hz2⟩ := info30
  have hvs : ∃ a l c, v = .slice a l c := by
    rcases hown.2 with ⟨rfl, _⟩ | ⟨g, cap, cur, rfl, _⟩ <;> exact ⟨_, _, _, rfl⟩
  obtain ⟨av, lv, cv, rfl⟩ := hvs
  have hGl : G < w.heap.size := shape_lt hsh
  have hnotG : (Value.slice av lv cv).ownBlock ≠ some G := by
    intro e
    have := (hown.lt G e).1
    omega
  have hownsh : ∀ b, (Value.slice av lv cv).ownBlock = some b → B2 ≤ b ∧ ∃ n, w.shape? b = some (30, n) := by
    intro b e
    refine ⟨(hown.lt b e).1, ?_⟩
    rcases hown.2 with ⟨e2, _⟩ | ⟨g, cap, cur, e2, _, h3, _⟩
    · rw [e2] at e; cases e
    · rw [e2] at e; cases e
      exact ⟨_, by unfold World.shape?; rw [h3]⟩
  have hown0 : Hid _ := hown
  clear hown
  go_enter Ybaf.func13, Ybaf.ntmps13
  go_wp2_with (at_builtin; refine wpList_append_own _ rfl _ _ 24 rfl B2 30 i0 (.int .u32 0) 1 4 Ybaf.underlying24 hi hz0 hz1 hz2 rfl (by decide) _ _ _ rfl (World.ownsRow.alloc hown0.out _) ⟨w.heap.size, 0, none⟩ 1 1 [.int .u32 s] rfl rfl ?qc2 ?qc3 ?qc4 ?qc5 ?qc6 ?_)
  case qc2 =>
    intro j u hj
    cases j with
    | zero =>
      simp at hj
      subst hj
      rw [Addr.add_lit]
      exact cellNew _ _ _ _ _ rfl
    | succ j => simp at hj
  case qc3 => intro u hu; simp at hu; subst hu; rfl
  case qc4 => unfold maxLen; omega
  case qc5 => omega
  case qc6 => simp; omega
  intro v' w1 hown1 hgrow hnil
  obtain ⟨g1, cap1, rfl, hg1, hcap1, hsh1, hcl1, hfz1⟩ := owns_cells hown1 hnil
  obtain ⟨k1, k2, k3, k4⟩ := collect hc hz hsh hGl hnotG hownsh hG hown1 hgrow
  have km : w1.cell? ⟨M, 0, none⟩ = some (.int .i64 m) := by
    have hMl : M < w.heap.size := World.block_lt_of_cell? _ _ hm
    have hb : w1.heap[M]? = w.heap[M]? := (hgrow.block M (by simp; omega) (fun e => by have := (hownsh M e.symm).1; omega)).trans (Below.heap_alloc w _ M hMl)
    exact (World.cell?_of_block (a := ⟨M, 0, none⟩) hb).trans hm
  replace hown1 : Hid _ := hown1
  replace hgrow : Hid _ := hgrow
  replace k3 : Hid _ := k3
  replace k4 : Hid _ := k4
  clear hcl1 hfz1
  go_wp2_with fail
  go_ret
  exact ⟨congrArg (fun b => Ending.returned (Value.bool b)) (decide_eq_decide.2 (by simp; omega)), k3.out, k4.out⟩
end Go.Proofs.YbulkbjwiFmt
