/-
  SEAT b3037aF: THE WHOLE TREE IN MEMORY, and what each step of Insert does to it.
-/
import Derived.Test.YbulkbjwiFmtTree
namespace Go.Proofs.YbulkbjwiFmt
open Go.RowKit

/-- A point of three coordinates, in the far arena. -/
def FarPt (w : World) (fc : Nat → Option Nat) (s : Nat) : Prop :=
  ∃ c q cp m, fc (s / 2048) = some c ∧ w.cell? ⟨c, s % 2048, none⟩ = some (.slice (some ⟨q, 0, none⟩) 3 cp) ∧ 3 ≤ cp ∧ w.shape? q = some (58, m) ∧ ∀ j, j < 3 → ∃ x, w.cell? ⟨q, j, none⟩ = some (.float .f64 x)

structure Mem (w : World) (B T AX d cap : Nat) (pg : Option Nat) (ch : Nat → Option Nat) (fp : Option Nat) (fc : Nat → Option Nat) (t : BT) : Prop where
  d0 : 0 < d
  d3 : d ≤ 3
  shT : w.shape? T = some (53, 2050)
  shA : ∃ m, w.shape? AX = some (94, m)
  geT : B ≤ T
  gep : ∀ b, pg = some b → B ≤ b
  gec : ∀ k b, ch k = some b → B ≤ b
  gef : ∀ b, fp = some b → B ≤ b
  gefc : ∀ k b, fc k = some b → B ≤ b
  ax : Axes w T AX d cap
  nd : Ar 88 91 8192 w T 2 pg ch
  far : Ar 127 131 2048 w T 1026 fp fc
  inj : Inj ch
  finj : Inj fc
  kz : ∀ s, s < 4096 → s ∉ t.slots → ∀ c, ch (s / 2048) = some c → w.cell? (kid c s 0) = some (.int .u32 0) ∧ w.cell? (kid c s 1) = some (.int .u32 0)
  kf : ∀ s c, ch (s / 2048) = some c → ∀ side, side < 2 → w.frozen? (kid c s side) = false
  inl : ∀ s c, ch (s / 2048) = some c → ∀ j, j < 2 → ∃ x, w.cell? ⟨c, s % 2048 * 4 + 2 + j, none⟩ = some (.float .f64 x) ∧ w.frozen? ⟨c, s % 2048 * 4 + 2 + j, none⟩ = false
  rootz : w.frozen? ⟨T, 1, none⟩ = false
  root : IsT w ch ⟨T, 1, none⟩ t
  nodup : t.slots.Nodup
  pts : d = 3 → ∀ s ∈ t.slots, FarPt w fc s
  fok : ∀ s c, fc (s / 2048) = some c → ∃ v, w.cell? ⟨c, s % 2048, none⟩ = some v ∧ w.frozen? ⟨c, s % 2048, none⟩ = false

/-- The kinds of block that are the tree's own to write. -/
def Own (B : Nat) (w : World) (b : Nat) : Prop := B ≤ b ∧ ∃ e n, w.shape? b = some (e, n) ∧ (e = 53 ∨ e = 88 ∨ e = 91 ∨ e = 127 ∨ e = 131)
/-- .. that the tree reads. -/
def Kind (e : Nat) : Prop := e = 53 ∨ e = 94 ∨ e = 88 ∨ e = 91 ∨ e = 127 ∨ e = 131 ∨ e = 58
def Free (w : World) (own : Nat → Prop) : Prop := ∀ b, own b → ∀ e n, w.shape? b = some (e, n) → ¬ Kind e

theorem Fr.own {B : Nat} {a b c : World} (h : Fr (Own B a) a b) (k : Fr (Own B b) b c) : Fr (Own B a) a c :=
  h.trans' k (fun i hi ⟨h0, e, n, h1, h2⟩ => ⟨h0, e, n, (h.shape i hi).symm.trans h1, h2⟩)
theorem Fr.ownR {B : Nat} {own : Nat → Prop} {a b c : World} (h : Fr (Own B a) a b) (k : Fr own b c) (hn : ∀ i, i < a.heap.size → ¬ own i) : Fr (Own B a) a c :=
  h.trans' k (fun i hi h1 => absurd h1 (hn i hi))
theorem Free.none (w : World) : Free w (fun _ => False) := fun _ h => h.elim

theorem FarPt.fr {own : Nat → Prop} {w w' : World} {fc : Nat → Option Nat} {s : Nat} (h : FarPt w fc s) (hs : ∀ k c, fc k = some c → w.shape? c = some (131, 2048)) (hf : Fr own w w') (hn : Free w own) : FarPt w' fc s := by
  obtain ⟨c, q, cp, m, h1, h2, h3, h4, h5⟩ := h
  refine ⟨c, q, cp, m, h1, hf.cell h2 (fun ho => hn c ho _ _ (hs _ _ h1) (by unfold Kind; omega)), h3, (hf.shape q (shape_lt h4)).trans h4, fun j hj => ?_⟩
  obtain ⟨x, hx⟩ := h5 j hj
  exact ⟨x, hf.cell hx (fun ho => hn q ho _ _ h4 (by unfold Kind; omega))⟩

theorem Ar.fr {PE CE CS : Nat} {own : Nat → Prop} {w w' : World} {T A : Nat} {pg : Option Nat} {ch : Nat → Option Nat} (h : Ar PE CE CS w T A pg ch) (hf : Fr own w w') (hT : ¬ own T) (hP : ∀ P, pg = some P → ¬ own P) : Ar PE CE CS w' T A pg ch := by
  refine ⟨hf.cell h.top hT, hf.froz h.top h.topz hT, fun P e => (hf.shape P (shape_lt (h.page P e))).trans (h.page P e), fun P e k hk => ?_, fun k c e => (hf.shape c (shape_lt (h.chunk k c e))).trans (h.chunk k c e), h.none_⟩
  obtain ⟨h1, h2⟩ := h.cell P e k hk
  exact ⟨hf.cell h1 (hP P e), hf.froz h1 h2 (hP P e)⟩

section
variable {w w' : World} {B T AX d cap : Nat} {pg fp : Option Nat} {ch fc : Nat → Option Nat} {t : BT}

theorem Mem.fr {own : Nat → Prop} (h : Mem w B T AX d cap pg ch fp fc t) (hf : Fr own w w') (hn : Free w own) : Mem w' B T AX d cap pg ch fp fc t := by
  have nT : ¬ own T := fun ho => hn T ho _ _ h.shT (by unfold Kind; omega)
  obtain ⟨mA, hA⟩ := h.shA
  have nA : ¬ own AX := fun ho => hn AX ho _ _ hA (by unfold Kind; omega)
  have nP : ∀ P, pg = some P → ¬ own P := fun P e ho => hn P ho _ _ (h.nd.page P e) (by unfold Kind; omega)
  have nF : ∀ P, fp = some P → ¬ own P := fun P e ho => hn P ho _ _ (h.far.page P e) (by unfold Kind; omega)
  have nC : ∀ k c, ch k = some c → ¬ own c := fun k c e ho => hn c ho _ _ (h.nd.chunk k c e) (by unfold Kind; omega)
  have nD : ∀ k c, fc k = some c → ¬ own c := fun k c e ho => hn c ho _ _ (h.far.chunk k c e) (by unfold Kind; omega)
  have hblk : ∀ k c, ch k = some c → w'.heap[c]? = w.heap[c]? := fun k c e => hf.block c (shape_lt (h.nd.chunk k c e)) (nC k c e)
  refine ⟨h.d0, h.d3, (hf.shape T (shape_lt h.shT)).trans h.shT, ⟨mA, (hf.shape AX (shape_lt hA)).trans hA⟩, h.geT, h.gep, h.gec, h.gef, h.gefc, h.ax.fr h.d0 hf nT nA, h.nd.fr hf nT nP, h.far.fr hf nT nF, h.inj, h.finj, ?_, ?_, ?_, ?_, ?_, h.nodup, ?_, ?_⟩
  · intro s hs hm c hc
    obtain ⟨h1, h2⟩ := h.kz s hs hm c hc
    exact ⟨hf.cell h1 (nC _ c hc), hf.cell h2 (nC _ c hc)⟩
  · intro s c hc side hside
    exact (World.frozen?_of_block (a := kid c s side) (hblk _ c hc)).trans (h.kf s c hc side hside)
  · intro s c hc j hj
    obtain ⟨x, h1, h2⟩ := h.inl s c hc j hj
    exact ⟨x, hf.cell h1 (nC _ c hc), hf.froz h1 h2 (nC _ c hc)⟩
  · exact (World.frozen?_of_block (a := ⟨T, 1, none⟩) (hf.block T (shape_lt h.shT) nT)).trans h.rootz
  · refine h.root.kept (fun _ _ e => e) (fun s c hc side _ => World.cell?_of_block (a := kid c s side) (hblk _ c hc)) ?_
    exact World.cell?_of_block (a := ⟨T, 1, none⟩) (hf.block T (shape_lt h.shT) nT)
  · exact fun e s hs => (h.pts e s hs).fr h.far.chunk hf hn
  · intro s c hc
    obtain ⟨v, h1, h2⟩ := h.fok s c hc
    exact ⟨v, hf.cell h1 (nD _ c hc), hf.froz h1 h2 (nD _ c hc)⟩

/-- Behind nodes.Make. -/
theorem Mem.makeNode (h : Mem w B T AX d cap pg ch fp fc t) {P c k : Nat} {ch' : Nat → Option Nat} (hB : B ≤ w.heap.size) (ha : Ar 88 91 8192 w' T 2 (some P) ch') (hk : ch' k = some c) (hoth : ∀ j, j ≠ k → ch' j = ch j)
    (hP : pg = some P ∨ pg = none ∧ w.heap.size ≤ P) (hc : ch k = some c ∨ ch k = none ∧ w.heap.size ≤ c ∧ w'.heap[c]? = some (.cells zc91 91)) (hf : Fr (fun b => b = T ∨ pg = some b) w w')
    (hTc : ∀ off, off ≠ 2 → w'.cell? ⟨T, off, none⟩ = w.cell? ⟨T, off, none⟩ ∧ w'.frozen? ⟨T, off, none⟩ = w.frozen? ⟨T, off, none⟩) : Mem w' B T AX d cap (some P) ch' fp fc t := by
  have hold : ∀ j b, ch j = some b → ch' j = some b := by
    intro j b e
    by_cases hj : j = k
    · subst hj
      rcases hc with h1 | ⟨h1, _⟩
      · rw [h1] at e; rw [hk]; exact e
      · rw [h1] at e; cases e
    · rw [hoth j hj]; exact e
  obtain ⟨mA, hA⟩ := h.shA
  have n1 : ∀ b e n, w.shape? b = some (e, n) → e ≠ 53 → e ≠ 88 → ¬ (b = T ∨ pg = some b) := by
    rintro b e n hb h1 h2 (rfl | hp)
    · rw [h.shT] at hb; cases hb; exact h1 rfl
    · rw [h.nd.page b hp] at hb; cases hb; exact h2 rfl
  have nA := n1 AX _ _ hA (by decide) (by decide)
  have nC : ∀ j b, ch j = some b → ¬ (b = T ∨ pg = some b) := fun j b e => n1 b _ _ (h.nd.chunk j b e) (by decide) (by decide)
  have nD : ∀ j b, fc j = some b → ¬ (b = T ∨ pg = some b) := fun j b e => n1 b _ _ (h.far.chunk j b e) (by decide) (by decide)
  have nF : ∀ b, fp = some b → ¬ (b = T ∨ pg = some b) := fun b e => n1 b _ _ (h.far.page b e) (by decide) (by decide)
  have hblk : ∀ j b, ch j = some b → w'.heap[b]? = w.heap[b]? := fun j b e => hf.block b (shape_lt (h.nd.chunk j b e)) (nC j b e)
  have hnew : ∀ j b, ch' j = some b → ch j = some b ∨ b = c ∧ w'.heap[c]? = some (.cells zc91 91) ∧ w.heap.size ≤ c := by
    intro j b e
    by_cases hj : j = k
    · subst hj
      rw [hk] at e; cases e
      rcases hc with h1 | ⟨_, h2, h3⟩
      · exact .inl h1
      · exact .inr ⟨rfl, h3, h2⟩
    · rw [hoth j hj] at e; exact .inl e
  have hz : w'.heap[c]? = some (.cells zc91 91) → ∀ s, w'.cell? (kid c s 0) = some (.int .u32 0) ∧ w'.cell? (kid c s 1) = some (.int .u32 0) ∧ w'.cell? ⟨c, s % 2048 * 4 + 2, none⟩ = some (.float .f64 0) ∧ w'.cell? ⟨c, s % 2048 * 4 + 2 + 1, none⟩ = some (.float .f64 0) ∧ ∀ off, w'.frozen? ⟨c, off, none⟩ = false := by
    intro hh s
    have h4 := zc91_at (s % 2048) (by omega)
    rw [Nat.mul_comm] at h4
    refine ⟨?_, ?_, ?_, ?_, fun off => ?_⟩
    · unfold World.cell?; simp only [hh]; simpa using h4.1
    · unfold World.cell?; simp only [hh]; simpa using h4.2.1
    · unfold World.cell?; simp only [hh]; simpa using h4.2.2.1
    · unfold World.cell?; simp only [hh]; simpa using h4.2.2.2
    · unfold World.frozen?; simp only [hh]; simp
  refine ⟨h.d0, h.d3, (hf.shape T (shape_lt h.shT)).trans h.shT, ⟨mA, (hf.shape AX (shape_lt hA)).trans hA⟩, h.geT, ?_, ?_, h.gef, h.gefc, ?_, ha, ?_, ?_, h.finj, ?_, ?_, ?_, ?_, ?_, h.nodup, ?_, ?_⟩
  · intro b e; cases e
    rcases hP with h1 | ⟨_, h1⟩
    · exact h.gep _ h1
    · omega
  · intro j b e
    rcases hnew j b e with h1 | ⟨rfl, _, h1⟩
    · exact h.gec j b h1
    · omega
  · exact h.ax.kept (hTc 0 (by decide)).1 (hf.block AX (shape_lt hA) nA)
  · refine ⟨(hTc 1026 (by decide)).1.trans h.far.top, (hTc 1026 (by decide)).2.trans h.far.topz, fun Q e => (hf.shape Q (shape_lt (h.far.page Q e))).trans (h.far.page Q e), fun Q e j hj => ?_, fun j b e => (hf.shape b (shape_lt (h.far.chunk j b e))).trans (h.far.chunk j b e), h.far.none_⟩
    obtain ⟨h1, h2⟩ := h.far.cell Q e j hj
    exact ⟨hf.cell h1 (nF Q e), hf.froz h1 h2 (nF Q e)⟩
  · intro j j' b e e'
    rcases hnew j b e with h1 | ⟨rfl, _, h1⟩
    · rcases hnew j' b e' with h2 | ⟨rfl, _, h2⟩
      · exact h.inj j j' b h1 h2
      · have := shape_lt (h.nd.chunk j _ h1); omega
    · rcases hnew j' b e' with h2 | ⟨_, _, h2⟩
      · have := shape_lt (h.nd.chunk j' _ h2); omega
      · by_cases q : j = k
        · by_cases q' : j' = k
          · omega
          · rw [hoth j' q'] at e'
            have := shape_lt (h.nd.chunk j' _ e'); omega
        · rw [hoth j q] at e
          have := shape_lt (h.nd.chunk j _ e); omega
  · intro s hs hm b e
    rcases hnew _ b e with h1 | ⟨rfl, h2, _⟩
    · obtain ⟨g1, g2⟩ := h.kz s hs hm b h1
      exact ⟨hf.cell g1 (nC _ b h1), hf.cell g2 (nC _ b h1)⟩
    · exact ⟨(hz h2 s).1, (hz h2 s).2.1⟩
  · intro s b e side hside
    rcases hnew _ b e with h1 | ⟨rfl, h2, _⟩
    · exact (World.frozen?_of_block (a := kid b s side) (hblk _ b h1)).trans (h.kf s b h1 side hside)
    · exact (hz h2 s).2.2.2.2 _
  · intro s b e j hj
    rcases hnew _ b e with h1 | ⟨rfl, h2, _⟩
    · obtain ⟨x, g1, g2⟩ := h.inl s b h1 j hj
      exact ⟨x, hf.cell g1 (nC _ b h1), hf.froz g1 g2 (nC _ b h1)⟩
    · have := hz h2 s
      have hj' : j = 0 ∨ j = 1 := by omega
      rcases hj' with rfl | rfl
      · exact ⟨0, this.2.2.1, this.2.2.2.2 _⟩
      · exact ⟨0, this.2.2.2.1, this.2.2.2.2 _⟩
  · exact (hTc 1 (by decide)).2.trans h.rootz
  · exact h.root.kept hold (fun s b e side _ => World.cell?_of_block (a := kid b s side) (hblk _ b e)) (hTc 1 (by decide)).1
  · intro e s hs
    obtain ⟨b, q, cp, m, g1, g2, g3, g4, g5⟩ := h.pts e s hs
    refine ⟨b, q, cp, m, g1, hf.cell g2 (nD _ b g1), g3, (hf.shape q (shape_lt g4)).trans g4, fun j hj => ?_⟩
    obtain ⟨x, hx⟩ := g5 j hj
    exact ⟨x, hf.cell hx (n1 q _ _ g4 (by decide) (by decide))⟩
  · intro s b e
    obtain ⟨v, g1, g2⟩ := h.fok s b e
    exact ⟨v, hf.cell g1 (nD _ b e), hf.froz g1 g2 (nD _ b e)⟩
end
end Go.Proofs.YbulkbjwiFmt
