/-
  SEAT b3037aF: THE WHOLE TREE IN MEMORY, the further steps of Insert.
-/
import Derived.Test.YbulkbjwiFmtMem
namespace Go.Proofs.YbulkbjwiFmt
open Go.RowKit

theorem Ar.set {PE CE CS : Nat} {w : World} {T A : Nat} {pg : Option Nat} {ch : Nat → Option Nat} (h : Ar PE CE CS w T A pg ch) {a : Addr} (v : Value) (hT : a ≠ ⟨T, A, none⟩) (hP : ∀ P, pg = some P → a.block ≠ P) : Ar PE CE CS (w.setCell a v) T A pg ch := by
  refine ⟨by rw [World.cell?_setCell_other _ _ _ _ hT]; exact h.top, by rw [World.frozen?_setCell]; exact h.topz, fun P e => by rw [shape_setCell]; exact h.page P e, fun P e k hk => ?_, fun k c e => by rw [shape_setCell]; exact h.chunk k c e, h.none_⟩
  obtain ⟨h1, h2⟩ := h.cell P e k hk
  exact ⟨by rw [World.cell?_setCell_other _ _ _ _ (fun q => hP P e (by rw [q]))]; exact h1, by rw [World.frozen?_setCell]; exact h2⟩
theorem Axes.set {w : World} {T AX d cap : Nat} (h : Axes w T AX d cap) {a : Addr} (v : Value) (hT : a ≠ ⟨T, 0, none⟩) (hA : a.block ≠ AX) : Axes (w.setCell a v) T AX d cap :=
  h.kept (World.cell?_setCell_other _ _ _ _ hT) (heap_setCell_other _ _ _ _ (fun q => hA q.symm))
theorem FarPt.set {w : World} {fc : Nat → Option Nat} {s : Nat} (h : FarPt w fc s) {a : Addr} (v : Value) (h1 : ∀ c, fc (s / 2048) = some c → a ≠ ⟨c, s % 2048, none⟩) (h2 : ∀ m, w.shape? a.block ≠ some (58, m)) : FarPt (w.setCell a v) fc s := by
  obtain ⟨c, q, cp, m, g1, g2, g3, g4, g5⟩ := h
  have hq : a.block ≠ q := by rintro rfl; exact h2 _ g4
  refine ⟨c, q, cp, m, g1, by rw [World.cell?_setCell_other _ _ _ _ (h1 c g1)]; exact g2, g3, by rw [shape_setCell]; exact g4, fun j hj => ?_⟩
  obtain ⟨x, hx⟩ := g5 j hj
  exact ⟨x, by rw [World.cell?_setCell_other _ _ _ _ (fun e => hq (by rw [e]))]; exact hx⟩

section
variable {w w' : World} {B T AX d cap : Nat} {pg fp : Option Nat} {ch fc : Nat → Option Nat} {t : BT}

/-- Behind far.Make. -/
theorem Mem.makeFar (h : Mem w B T AX d cap pg ch fp fc t) {P c k : Nat} {fc' : Nat → Option Nat} (hB : B ≤ w.heap.size) (ha : Ar 127 131 2048 w' T 1026 (some P) fc') (hk : fc' k = some c) (hoth : ∀ j, j ≠ k → fc' j = fc j)
    (hP : fp = some P ∨ fp = none ∧ w.heap.size ≤ P) (hc : fc k = some c ∨ fc k = none ∧ w.heap.size ≤ c ∧ w'.heap[c]? = some (.cells zc131 131)) (hf : Fr (fun b => b = T ∨ fp = some b) w w')
    (hTc : ∀ off, off ≠ 1026 → w'.cell? ⟨T, off, none⟩ = w.cell? ⟨T, off, none⟩ ∧ w'.frozen? ⟨T, off, none⟩ = w.frozen? ⟨T, off, none⟩) : Mem w' B T AX d cap pg ch (some P) fc' t := by
  obtain ⟨mA, hA⟩ := h.shA
  have hold : ∀ j b, fc j = some b → fc' j = some b := by
    intro j b e
    by_cases hj : j = k
    · subst hj
      rcases hc with h1 | ⟨h1, _⟩
      · rw [h1] at e; rw [hk]; exact e
      · rw [h1] at e; cases e
    · rw [hoth j hj]; exact e
  have n1 : ∀ b e n, w.shape? b = some (e, n) → e ≠ 53 → e ≠ 127 → ¬ (b = T ∨ fp = some b) := by
    rintro b e n hb h1 h2 (rfl | hp)
    · rw [h.shT] at hb; cases hb; exact h1 rfl
    · rw [h.far.page b hp] at hb; cases hb; exact h2 rfl
  have nA := n1 AX _ _ hA (by decide) (by decide)
  have nC : ∀ j b, ch j = some b → ¬ (b = T ∨ fp = some b) := fun j b e => n1 b _ _ (h.nd.chunk j b e) (by decide) (by decide)
  have nD : ∀ j b, fc j = some b → ¬ (b = T ∨ fp = some b) := fun j b e => n1 b _ _ (h.far.chunk j b e) (by decide) (by decide)
  have nP : ∀ b, pg = some b → ¬ (b = T ∨ fp = some b) := fun b e => n1 b _ _ (h.nd.page b e) (by decide) (by decide)
  have hblk : ∀ j b, ch j = some b → w'.heap[b]? = w.heap[b]? := fun j b e => hf.block b (shape_lt (h.nd.chunk j b e)) (nC j b e)
  have hnew : ∀ j b, fc' j = some b → fc j = some b ∨ b = c ∧ w'.heap[c]? = some (.cells zc131 131) ∧ w.heap.size ≤ c := by
    intro j b e
    by_cases hj : j = k
    · subst hj
      rw [hk] at e; cases e
      rcases hc with h1 | ⟨_, h2, h3⟩
      · exact .inl h1
      · exact .inr ⟨rfl, h3, h2⟩
    · rw [hoth j hj] at e; exact .inl e
  refine ⟨h.d0, h.d3, (hf.shape T (shape_lt h.shT)).trans h.shT, ⟨mA, (hf.shape AX (shape_lt hA)).trans hA⟩, h.geT, h.gep, h.gec, ?_, ?_, ?_, ?_, ha, h.inj, ?_, ?_, ?_, ?_, ?_, ?_, h.nodup, ?_, ?_⟩
  · intro b e; cases e
    rcases hP with h1 | ⟨_, h1⟩
    · exact h.gef _ h1
    · omega
  · intro j b e
    rcases hnew j b e with h1 | ⟨rfl, _, h1⟩
    · exact h.gefc j b h1
    · omega
  · exact h.ax.kept (hTc 0 (by decide)).1 (hf.block AX (shape_lt hA) nA)
  · refine ⟨(hTc 2 (by decide)).1.trans h.nd.top, (hTc 2 (by decide)).2.trans h.nd.topz, fun Q e => (hf.shape Q (shape_lt (h.nd.page Q e))).trans (h.nd.page Q e), fun Q e j hj => ?_, fun j b e => (hf.shape b (shape_lt (h.nd.chunk j b e))).trans (h.nd.chunk j b e), h.nd.none_⟩
    obtain ⟨h1, h2⟩ := h.nd.cell Q e j hj
    exact ⟨hf.cell h1 (nP Q e), hf.froz h1 h2 (nP Q e)⟩
  · intro j j' b e e'
    rcases hnew j b e with h1 | ⟨rfl, _, h1⟩
    · rcases hnew j' b e' with h2 | ⟨rfl, _, h2⟩
      · exact h.finj j j' b h1 h2
      · have := shape_lt (h.far.chunk j _ h1); omega
    · rcases hnew j' b e' with h2 | ⟨_, _, h2⟩
      · have := shape_lt (h.far.chunk j' _ h2); omega
      · by_cases q : j = k
        · by_cases q' : j' = k
          · omega
          · rw [hoth j' q'] at e'
            have := shape_lt (h.far.chunk j' _ e'); omega
        · rw [hoth j q] at e
          have := shape_lt (h.far.chunk j _ e); omega
  · intro s hs hm b e
    obtain ⟨g1, g2⟩ := h.kz s hs hm b e
    exact ⟨hf.cell g1 (nC _ b e), hf.cell g2 (nC _ b e)⟩
  · intro s b e side hside
    exact (World.frozen?_of_block (a := kid b s side) (hblk _ b e)).trans (h.kf s b e side hside)
  · intro s b e j hj
    obtain ⟨x, g1, g2⟩ := h.inl s b e j hj
    exact ⟨x, hf.cell g1 (nC _ b e), hf.froz g1 g2 (nC _ b e)⟩
  · exact (hTc 1 (by decide)).2.trans h.rootz
  · exact h.root.kept (fun _ _ e => e) (fun s b e side _ => World.cell?_of_block (a := kid b s side) (hblk _ b e)) (hTc 1 (by decide)).1
  · intro e s hs
    obtain ⟨b, q, cp, m, g1, g2, g3, g4, g5⟩ := h.pts e s hs
    refine ⟨b, q, cp, m, hold _ _ g1, hf.cell g2 (nD _ b g1), g3, (hf.shape q (shape_lt g4)).trans g4, fun j hj => ?_⟩
    obtain ⟨x, hx⟩ := g5 j hj
    exact ⟨x, hf.cell hx (n1 q _ _ g4 (by decide) (by decide))⟩
  · intro s b e
    rcases hnew _ b e with h1 | ⟨rfl, h2, _⟩
    · obtain ⟨v, g1, g2⟩ := h.fok s b h1
      exact ⟨v, hf.cell g1 (nD _ b h1), hf.froz g1 g2 (nD _ b h1)⟩
    · refine ⟨.slice none 0 0, ?_, ?_⟩
      · unfold World.cell?; simp only [h2]; simpa using zc131_at (s % 2048) (by omega)
      · unfold World.frozen?; simp only [h2]; simp

/-- A coordinate within a node. -/
theorem Mem.inline (h : Mem w B T AX d cap pg ch fp fc t) {s c j : Nat} (hc : ch (s / 2048) = some c) (hj : j < 2) (x : Nat) : Mem (w.setCell ⟨c, s % 2048 * 4 + 2 + j, none⟩ (.float .f64 x)) B T AX d cap pg ch fp fc t := by
  obtain ⟨mA, hA⟩ := h.shA
  have hsh := h.nd.chunk _ c hc
  have nT : c ≠ T := shape_ne hsh h.shT (by decide)
  have nA : c ≠ AX := shape_ne hsh hA (by decide)
  have hkid : ∀ (b s' side : Nat), side < 2 → (⟨c, s % 2048 * 4 + 2 + j, none⟩ : Addr) ≠ kid b s' side := by
    intro b s' side hs e
    injection e with _ e2 _
    omega
  have hT : ∀ off, (⟨c, s % 2048 * 4 + 2 + j, none⟩ : Addr) ≠ ⟨T, off, none⟩ := fun off e => nT (by injection e)
  refine ⟨h.d0, h.d3, by rw [shape_setCell]; exact h.shT, ⟨mA, by rw [shape_setCell]; exact hA⟩, h.geT, h.gep, h.gec, h.gef, h.gefc, h.ax.set _ (hT 0) nA, h.nd.set _ (hT 2) (fun P e => shape_ne hsh (h.nd.page P e) (by decide)), h.far.set _ (hT 1026) (fun P e => shape_ne hsh (h.far.page P e) (by decide)), h.inj, h.finj, ?_, ?_, ?_, ?_, ?_, h.nodup, ?_, ?_⟩
  · intro s' hs' hm b e
    obtain ⟨g1, g2⟩ := h.kz s' hs' hm b e
    exact ⟨by rw [World.cell?_setCell_other _ _ _ _ (hkid b s' 0 (by omega))]; exact g1, by rw [World.cell?_setCell_other _ _ _ _ (hkid b s' 1 (by omega))]; exact g2⟩
  · intro s' b e side hside
    rw [World.frozen?_setCell]; exact h.kf s' b e side hside
  · intro s' b e j' hj'
    obtain ⟨y, g1, g2⟩ := h.inl s' b e j' hj'
    by_cases q : (⟨c, s % 2048 * 4 + 2 + j, none⟩ : Addr) = ⟨b, s' % 2048 * 4 + 2 + j', none⟩
    · rw [← q] at g1 g2 ⊢
      exact ⟨x, World.cell?_setCell_same _ _ _ g1, by rw [World.frozen?_setCell]; exact g2⟩
    · exact ⟨y, by rw [World.cell?_setCell_other _ _ _ _ q]; exact g1, by rw [World.frozen?_setCell]; exact g2⟩
  · rw [World.frozen?_setCell]; exact h.rootz
  · exact h.root.kept (fun _ _ e => e) (fun s' b _ side hs => World.cell?_setCell_other _ _ _ _ (hkid b s' side hs)) (World.cell?_setCell_other _ _ _ _ (hT 1))
  · intro e s' hs'
    exact (h.pts e s' hs').set _ (fun b hb q => shape_ne hsh (h.far.chunk _ b hb) (by decide) (by injection q)) (fun m q => by rw [hsh] at q; cases q)
  · intro s' b e
    obtain ⟨v, g1, g2⟩ := h.fok s' b e
    exact ⟨v, by rw [World.cell?_setCell_other _ _ _ _ (fun q => shape_ne hsh (h.far.chunk _ b e) (by decide) (by injection q))]; exact g1, by rw [World.frozen?_setCell]; exact g2⟩

/-- A far point, stored for a slot that is not yet in the tree. -/
theorem Mem.farStore (h : Mem w B T AX d cap pg ch fp fc t) {s c q cp m : Nat} (hs : s ∉ t.slots) (hc : fc (s / 2048) = some c) (hcp : 3 ≤ cp) (hq : w.shape? q = some (58, m)) (hx : ∀ j, j < 3 → ∃ x, w.cell? ⟨q, j, none⟩ = some (.float .f64 x)) :
    Mem (w.setCell ⟨c, s % 2048, none⟩ (.slice (some ⟨q, 0, none⟩) 3 cp)) B T AX d cap pg ch fp fc t ∧ FarPt (w.setCell ⟨c, s % 2048, none⟩ (.slice (some ⟨q, 0, none⟩) 3 cp)) fc s := by
  obtain ⟨mA, hA⟩ := h.shA
  have hsh := h.far.chunk _ c hc
  have nT : c ≠ T := shape_ne hsh h.shT (by decide)
  have nA : c ≠ AX := shape_ne hsh hA (by decide)
  have hT : ∀ off, (⟨c, s % 2048, none⟩ : Addr) ≠ ⟨T, off, none⟩ := fun off e => nT (by injection e)
  have hC : ∀ k b off, ch k = some b → (⟨c, s % 2048, none⟩ : Addr) ≠ ⟨b, off, none⟩ := fun k b off e q => shape_ne hsh (h.nd.chunk k b e) (by decide) (by injection q)
  refine ⟨⟨h.d0, h.d3, by rw [shape_setCell]; exact h.shT, ⟨mA, by rw [shape_setCell]; exact hA⟩, h.geT, h.gep, h.gec, h.gef, h.gefc, h.ax.set _ (hT 0) nA, h.nd.set _ (hT 2) (fun P e => shape_ne hsh (h.nd.page P e) (by decide)), h.far.set _ (hT 1026) (fun P e => shape_ne hsh (h.far.page P e) (by decide)), h.inj, h.finj, ?_, ?_, ?_, ?_, ?_, h.nodup, ?_, ?_⟩, ?_⟩
  · intro s' hs' hm b e
    obtain ⟨g1, g2⟩ := h.kz s' hs' hm b e
    exact ⟨by rw [World.cell?_setCell_other _ _ _ _ (hC _ b _ e)]; exact g1, by rw [World.cell?_setCell_other _ _ _ _ (hC _ b _ e)]; exact g2⟩
  · intro s' b e side hside
    rw [World.frozen?_setCell]; exact h.kf s' b e side hside
  · intro s' b e j' hj'
    obtain ⟨y, g1, g2⟩ := h.inl s' b e j' hj'
    exact ⟨y, by rw [World.cell?_setCell_other _ _ _ _ (hC _ b _ e)]; exact g1, by rw [World.frozen?_setCell]; exact g2⟩
  · rw [World.frozen?_setCell]; exact h.rootz
  · exact h.root.kept (fun _ _ e => e) (fun s' b e side _ => World.cell?_setCell_other _ _ _ _ (hC _ b _ e)) (World.cell?_setCell_other _ _ _ _ (hT 1))
  · intro e s' hs'
    refine (h.pts e s' hs').set _ (fun b hb q => ?_) (fun m q => by rw [hsh] at q; cases q)
    injection q with q1 q2 _
    subst q1
    have := h.finj _ _ _ hc hb
    have hss : s = s' := by omega
    subst hss
    exact hs hs'
  · intro s' b e
    obtain ⟨v, g1, g2⟩ := h.fok s' b e
    by_cases q' : (⟨c, s % 2048, none⟩ : Addr) = ⟨b, s' % 2048, none⟩
    · rw [← q'] at g1 g2 ⊢
      exact ⟨_, World.cell?_setCell_same _ _ _ g1, by rw [World.frozen?_setCell]; exact g2⟩
    · exact ⟨v, by rw [World.cell?_setCell_other _ _ _ _ q']; exact g1, by rw [World.frozen?_setCell]; exact g2⟩
  · obtain ⟨v, g1, _⟩ := h.fok s c hc
    refine ⟨c, q, cp, m, hc, World.cell?_setCell_same _ _ _ g1, hcp, by rw [shape_setCell]; exact hq, fun j hj => ?_⟩
    obtain ⟨x, hx1⟩ := hx j hj
    exact ⟨x, by rw [World.cell?_setCell_other _ _ _ _ (fun e => shape_ne hsh hq (by decide) (by injection e))]; exact hx1⟩

/-- The compare-and-swap that puts the new leaf into its link. -/
theorem Mem.leaf (h : Mem w B T AX d cap pg ch fp fc t) {n cn : Nat} {a : Addr} (hn0 : 0 < n) (hn1 : n < 4096) (hnn : n ∉ t.slots) (hcn : ch (n / 2048) = some cn) (hp : Pos ch ⟨T, 1, none⟩ t a .nil) (hfar : d = 3 → FarPt w fc n) :
    ∃ t', Mem (w.setCell a (.int .u32 n)) B T AX d cap pg ch fp fc t' ∧ t'.slots.Perm (n :: t.slots) := by
  obtain ⟨mA, hA⟩ := h.shA
  obtain ⟨z0, z1⟩ := h.kz n hn1 hnn cn hcn
  have nTC : ∀ k c, ch k = some c → T ≠ c := fun k c e => shape_ne h.shT (h.nd.chunk k c e) (by decide)
  obtain ⟨t', ht', hperm⟩ := h.root.leaf h.inj hn0 hn1 hcn z0 z1 hp h.nodup hnn (fun s _ c hc side _ e => nTC _ c hc (by injection e))
  have hmem : ∀ s, s ∈ t'.slots ↔ s = n ∨ s ∈ t.slots := fun s => by rw [hperm.mem_iff]; simp
  have hw := hp.where_
  have hblock : a.block = T ∨ ∃ k, ch k = some a.block := by
    rcases hw with rfl | ⟨s, c, side, _, h2, _, rfl⟩
    · exact .inl rfl
    · exact .inr ⟨_, h2⟩
  have hsha : w.shape? a.block = some (53, 2050) ∨ w.shape? a.block = some (91, 8192) := by
    rcases hblock with e | ⟨k, e⟩
    · rw [e]; exact .inl h.shT
    · exact .inr (h.nd.chunk k _ e)
  have hne : ∀ b e m, w.shape? b = some (e, m) → e ≠ 53 → e ≠ 91 → a.block ≠ b := by
    rintro b e m hb h1 h2 rfl
    rcases hsha with q | q <;> (rw [q] at hb; cases hb; first | exact h1 rfl | exact h2 rfl)
  have hTo : ∀ off, off ≠ 1 → a ≠ ⟨T, off, none⟩ := by
    intro off ho e
    rcases hw with rfl | ⟨s, c, side, _, h2, _, rfl⟩
    · injection e with _ e2 _; exact ho e2.symm
    · exact nTC _ c h2 (by injection e with e1 _ _; exact e1.symm)
  have hkid : ∀ s c, s ∉ t.slots → ch (s / 2048) = some c → ∀ side, side < 2 → a ≠ kid c s side := by
    intro s c hs hc side hside e
    rcases hw with rfl | ⟨s2, c2, i2, m1, m2, m3, rfl⟩
    · exact nTC _ c hc (by injection e)
    · have := (h.inj.kid m2 hc m3 hside e).1
      subst this
      exact hs m1
  have hin : ∀ b off, a ≠ ⟨b, off * 4 + 2, none⟩ ∧ a ≠ ⟨b, off * 4 + 2 + 1, none⟩ ∨ a.block = T := by
    intro b off
    rcases hw with rfl | ⟨s2, c2, i2, m1, m2, m3, rfl⟩
    · exact .inr rfl
    · refine .inl ⟨?_, ?_⟩ <;> (intro e; injection e with _ e2 _; omega)
  refine ⟨t', ⟨h.d0, h.d3, by rw [shape_setCell]; exact h.shT, ⟨mA, by rw [shape_setCell]; exact hA⟩, h.geT, h.gep, h.gec, h.gef, h.gefc, h.ax.set _ (hTo 0 (by decide)) (hne AX _ _ hA (by decide) (by decide)),
    h.nd.set _ (hTo 2 (by decide)) (fun P e => hne P _ _ (h.nd.page P e) (by decide) (by decide)), h.far.set _ (hTo 1026 (by decide)) (fun P e => hne P _ _ (h.far.page P e) (by decide) (by decide)), h.inj, h.finj, ?_, ?_, ?_, ?_, ht', ?_, ?_, ?_⟩, hperm⟩
  · intro s hs hm c hc
    have hm' : s ∉ t.slots := fun q => hm ((hmem s).2 (.inr q))
    obtain ⟨g1, g2⟩ := h.kz s hs hm' c hc
    exact ⟨by rw [World.cell?_setCell_other _ _ _ _ (hkid s c hm' hc 0 (by omega))]; exact g1, by rw [World.cell?_setCell_other _ _ _ _ (hkid s c hm' hc 1 (by omega))]; exact g2⟩
  · intro s c hc side hside
    rw [World.frozen?_setCell]; exact h.kf s c hc side hside
  · intro s c hc j hj
    obtain ⟨x, g1, g2⟩ := h.inl s c hc j hj
    refine ⟨x, ?_, by rw [World.frozen?_setCell]; exact g2⟩
    rw [World.cell?_setCell_other _ _ _ _ ?_]; exact g1
    rcases hin c (s % 2048) with ⟨q1, q2⟩ | q
    · have hj' : j = 0 ∨ j = 1 := by omega
      rcases hj' with rfl | rfl
      · exact q1
      · exact q2
    · intro e
      rw [e] at q
      exact nTC _ c hc q.symm
  · rw [World.frozen?_setCell]; exact h.rootz
  · rw [hperm.nodup_iff]; exact List.nodup_cons.2 ⟨hnn, h.nodup⟩
  · intro e s hs
    have hs' : FarPt w fc s := by
      rcases (hmem s).1 hs with rfl | q
      · exact hfar e
      · exact h.pts e s q
    refine hs'.set _ (fun c hc q => hne c _ _ (h.far.chunk _ c hc) (by decide) (by decide) (by rw [q])) (fun m q => ?_)
    rcases hsha with q' | q' <;> (rw [q'] at q; cases q)
  · intro s c hc
    obtain ⟨v, g1, g2⟩ := h.fok s c hc
    exact ⟨v, by rw [World.cell?_setCell_other _ _ _ _ (fun q => hne c _ _ (h.far.chunk _ c hc) (by decide) (by decide) (by rw [q]))]; exact g1, by rw [World.frozen?_setCell]; exact g2⟩
end
end Go.Proofs.YbulkbjwiFmt
