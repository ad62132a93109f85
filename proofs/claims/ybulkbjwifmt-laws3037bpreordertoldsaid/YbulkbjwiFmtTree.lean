/-
  SEAT b3037aF: THE TREE OF LINKS, as a plain tree and in memory.
-/
import Derived.Test.YbulkbjwiFmtClone
namespace Go.Proofs.YbulkbjwiFmt
open Go.RowKit

inductive BT where
  | nil
  | node (s : Nat) (l r : BT)
/-- The slots, in preorder. -/
def BT.slots : BT → List Nat
  | .nil => []
  | .node s l r => s :: (l.slots ++ r.slots)

/-- The link of slot s: its side's cell in chunk c. -/
abbrev kid (c s side : Nat) : Addr := ⟨c, s % 2048 * 4 + side, none⟩

/-- The link at a holds the tree t. -/
def IsT (w : World) (ch : Nat → Option Nat) : Addr → BT → Prop
  | a, .nil => w.cell? a = some (.int .u32 0)
  | a, .node s l r => w.cell? a = some (.int .u32 s) ∧ 0 < s ∧ s < 4096 ∧ ∃ c, ch (s / 2048) = some c ∧ IsT w ch (kid c s 0) l ∧ IsT w ch (kid c s 1) r

theorem IsT.uniq {w : World} {ch : Nat → Option Nat} : ∀ {t t' : BT} {a : Addr}, IsT w ch a t → IsT w ch a t' → t = t'
  | .nil, .nil, _, _, _ => rfl
  | .nil, .node s l r, a, h, h' => by
    unfold IsT at h h'
    rw [h] at h'
    have := h'.1
    simp at this
    omega
  | .node s l r, .nil, a, h, h' => by
    unfold IsT at h h'
    rw [h.1] at h'
    simp at h'
    have := h.2.1
    omega
  | .node s l r, .node s' l' r', a, h, h' => by
    unfold IsT at h h'
    obtain ⟨h1, _, _, c, hc, hl, hr⟩ := h
    obtain ⟨h1', _, _, c', hc', hl', hr'⟩ := h'
    rw [h1] at h1'
    have e : s = s' := by simp at h1'; omega
    subst e
    rw [hc] at hc'
    cases hc'
    rw [hl.uniq hl', hr.uniq hr']

theorem IsT.kept {w w' : World} {ch ch' : Nat → Option Nat} (hch : ∀ k c, ch k = some c → ch' k = some c) (hc : ∀ s, ∀ c, ch (s / 2048) = some c → ∀ side, side < 2 → w'.cell? (kid c s side) = w.cell? (kid c s side)) :
    ∀ {t : BT} {a : Addr}, IsT w ch a t → w'.cell? a = w.cell? a → IsT w' ch' a t
  | .nil, _, h, ha => by unfold IsT at h ⊢; rw [ha, h]
  | .node s l r, _, h, ha => by
    unfold IsT at h ⊢
    obtain ⟨h1, h2, h3, c, h4, hl, hr⟩ := h
    exact ⟨by rw [ha, h1], h2, h3, c, hch _ _ h4, hl.kept hch hc (hc s c h4 0 (by omega)), hr.kept hch hc (hc s c h4 1 (by omega))⟩

/-- a is a link of the tree t that hangs at a0, and sub hangs at a. -/
def Pos (ch : Nat → Option Nat) : Addr → BT → Addr → BT → Prop
  | a0, .nil, a, sub => a = a0 ∧ sub = .nil
  | a0, .node s l r, a, sub => (a = a0 ∧ sub = .node s l r) ∨ ∃ c, ch (s / 2048) = some c ∧ (Pos ch (kid c s 0) l a sub ∨ Pos ch (kid c s 1) r a sub)

theorem Pos.refl (ch : Nat → Option Nat) (a : Addr) : ∀ t, Pos ch a t a t
  | .nil => ⟨rfl, rfl⟩
  | .node _ _ _ => .inl ⟨rfl, rfl⟩
theorem Pos.step {ch : Nat → Option Nat} : ∀ {t : BT} {a0 a : Addr} {s : Nat} {l r : BT} {c : Nat}, Pos ch a0 t a (.node s l r) → ch (s / 2048) = some c → Pos ch a0 t (kid c s 0) l ∧ Pos ch a0 t (kid c s 1) r
  | .nil, _, _, _, _, _, _, h, _ => by cases h.2
  | .node s' l' r', a0, a, s, l, r, c, h, hc => by
    rcases h with ⟨rfl, h2⟩ | ⟨c', hc', h | h⟩
    · cases h2
      exact ⟨.inr ⟨c, hc, .inl (Pos.refl _ _ _)⟩, .inr ⟨c, hc, .inr (Pos.refl _ _ _)⟩⟩
    · exact ⟨.inr ⟨c', hc', .inl (h.step hc).1⟩, .inr ⟨c', hc', .inl (h.step hc).2⟩⟩
    · exact ⟨.inr ⟨c', hc', .inr (h.step hc).1⟩, .inr ⟨c', hc', .inr (h.step hc).2⟩⟩
theorem Pos.isT {w : World} {ch : Nat → Option Nat} : ∀ {t : BT} {a0 a : Addr} {sub : BT}, Pos ch a0 t a sub → IsT w ch a0 t → IsT w ch a sub
  | .nil, _, _, _, h, hi => by obtain ⟨rfl, rfl⟩ := h; exact hi
  | .node s l r, a0, a, sub, h, hi => by
    rcases h with ⟨rfl, rfl⟩ | ⟨c, hc, h⟩
    · exact hi
    · unfold IsT at hi
      obtain ⟨_, _, _, c', hc', hl, hr⟩ := hi
      rw [hc] at hc'; cases hc'
      rcases h with h | h
      · exact h.isT hl
      · exact h.isT hr
/-- Where a link of the tree can lie. -/
theorem Pos.where_ {ch : Nat → Option Nat} : ∀ {t : BT} {a0 a : Addr} {sub : BT}, Pos ch a0 t a sub → a = a0 ∨ ∃ s c side, s ∈ t.slots ∧ ch (s / 2048) = some c ∧ side < 2 ∧ a = kid c s side
  | .nil, _, _, _, h => .inl h.1
  | .node s l r, a0, a, sub, h => by
    rcases h with ⟨rfl, _⟩ | ⟨c, hc, h | h⟩
    · exact .inl rfl
    · rcases h.where_ with rfl | ⟨s', c', side, h1, h2, h3, h4⟩
      · exact .inr ⟨s, c, 0, by simp [BT.slots], hc, by omega, rfl⟩
      · exact .inr ⟨s', c', side, by simp [BT.slots, h1], h2, h3, h4⟩
    · rcases h.where_ with rfl | ⟨s', c', side, h1, h2, h3, h4⟩
      · exact .inr ⟨s, c, 1, by simp [BT.slots], hc, by omega, rfl⟩
      · exact .inr ⟨s', c', side, by simp [BT.slots, h1], h2, h3, h4⟩

/-- The chunks are different blocks. -/
def Inj (ch : Nat → Option Nat) : Prop := ∀ k k' c, ch k = some c → ch k' = some c → k = k'
theorem Inj.kid {ch : Nat → Option Nat} (h : Inj ch) {s s' c c' i i' : Nat} (h1 : ch (s / 2048) = some c) (h2 : ch (s' / 2048) = some c') (hi : i < 2) (hi' : i' < 2) (e : kid c s i = kid c' s' i') : s = s' ∧ i = i' := by
  injection e with e1 e2 _
  subst e1
  have := h _ _ _ h1 h2
  omega

theorem IsT.setFar {w : World} {ch : Nat → Option Nat} {a : Addr} {v : Value} : ∀ {t : BT} {a0 : Addr}, IsT w ch a0 t → a ≠ a0 → (∀ s ∈ t.slots, ∀ c, ch (s / 2048) = some c → ∀ side, side < 2 → a ≠ kid c s side) → IsT (w.setCell a v) ch a0 t
  | .nil, a0, h, hne, _ => by unfold IsT at h ⊢; rw [World.cell?_setCell_other _ _ _ _ hne]; exact h
  | .node s l r, a0, h, hne, hf => by
    unfold IsT at h ⊢
    obtain ⟨h1, h2, h3, c, h4, hl, hr⟩ := h
    refine ⟨by rw [World.cell?_setCell_other _ _ _ _ hne]; exact h1, h2, h3, c, h4, hl.setFar (hf s (by simp [BT.slots]) c h4 0 (by omega)) ?_, hr.setFar (hf s (by simp [BT.slots]) c h4 1 (by omega)) ?_⟩
    · exact fun s' hs' => hf s' (by simp [BT.slots, hs'])
    · exact fun s' hs' => hf s' (by simp [BT.slots, hs'])

/-- A new leaf at an empty link. -/
theorem IsT.leaf {w : World} {ch : Nat → Option Nat} {a : Addr} {n cn : Nat} (hj : Inj ch) (hn0 : 0 < n) (hn1 : n < 4096) (hcn : ch (n / 2048) = some cn) (k0 : w.cell? (kid cn n 0) = some (.int .u32 0)) (k1 : w.cell? (kid cn n 1) = some (.int .u32 0)) :
    ∀ {t : BT} {a0 : Addr}, IsT w ch a0 t → Pos ch a0 t a .nil → t.slots.Nodup → n ∉ t.slots → (∀ s, s = n ∨ s ∈ t.slots → ∀ c, ch (s / 2048) = some c → ∀ side, side < 2 → a0 ≠ kid c s side) →
      ∃ t', IsT (w.setCell a (.int .u32 n)) ch a0 t' ∧ t'.slots.Perm (n :: t.slots)
  | .nil, a0, h, hp, _, _, ha => by
    obtain ⟨rfl, _⟩ := hp
    unfold IsT at h
    refine ⟨.node n .nil .nil, ?_, by simp [BT.slots]⟩
    unfold IsT
    refine ⟨World.cell?_setCell_same _ _ _ h, hn0, hn1, cn, hcn, ?_, ?_⟩
    · unfold IsT; rw [World.cell?_setCell_other _ _ _ _ (ha n (.inl rfl) cn hcn 0 (by omega))]; exact k0
    · unfold IsT; rw [World.cell?_setCell_other _ _ _ _ (ha n (.inl rfl) cn hcn 1 (by omega))]; exact k1
  | .node s l r, a0, h, hp, hnd, hnn, ha => by
    rcases hp with ⟨_, h2⟩ | ⟨c, hc, hp⟩
    · cases h2
    unfold IsT at h
    obtain ⟨h1, h2, h3, c', h4, hl, hr⟩ := h
    rw [hc] at h4; cases h4
    simp only [BT.slots, List.nodup_cons, List.mem_append, not_or, List.nodup_append] at hnd
    obtain ⟨⟨hsl, hsr⟩, hndl, hndr, hdis⟩ := hnd
    simp only [BT.slots, List.mem_cons, List.mem_append, not_or] at hnn
    obtain ⟨hns, hnl, hnr⟩ := hnn
    have hak : ∀ side, side < 2 → a0 ≠ kid c s side := ha s (.inr (by simp [BT.slots])) c hc
    have hkid : ∀ (q : BT) (hq : s ∉ q.slots) (i : Nat), i < 2 → ∀ s', s' = n ∨ s' ∈ q.slots → ∀ c', ch (s' / 2048) = some c' → ∀ side, side < 2 → kid c s i ≠ kid c' s' side := by
      intro q hq i hi s' hs' c' hc' side hside e
      have := (hj.kid hc hc' hi hside e).1
      subst this
      rcases hs' with rfl | hs'
      · exact hns rfl
      · exact hq hs'
    rcases hp with hp | hp
    · obtain ⟨l', hl', hperm⟩ := hl.leaf hj hn0 hn1 hcn k0 k1 hp hndl hnl (hkid l hsl 0 (by omega))
      have hane : ∀ s', s' = s ∧ True ∨ s' ∈ r.slots → ∀ c', ch (s' / 2048) = some c' → ∀ side, side < 2 → (s' = s → side = 1) → a ≠ kid c' s' side := by
        intro s' hs' c' hc' side hside hone e
        rcases hp.where_ with rfl | ⟨s2, c2, i2, m1, m2, m3, rfl⟩
        · have := hj.kid hc hc' (by omega : 0 < 2) hside e
          have := hone this.1.symm
          omega
        · have := (hj.kid m2 hc' m3 hside e).1
          subst this
          rcases hs' with ⟨rfl, _⟩ | hs'
          · exact hsl m1
          · exact hdis _ m1 _ hs' rfl
      refine ⟨.node s l' r, ?_, ?_⟩
      · unfold IsT
        refine ⟨?_, h2, h3, c, hc, hl', hr.setFar (hane s (.inl ⟨rfl, trivial⟩) c hc 1 (by omega) (fun _ => rfl)) (fun s' hs' c' hc' side hside => hane s' (.inr hs') c' hc' side hside (fun e => by subst e; exact absurd hs' hsr))⟩
        rw [World.cell?_setCell_other _ _ _ _ ?_]; exact h1
        intro e
        rcases hp.where_ with rfl | ⟨s2, c2, i2, m1, m2, m3, rfl⟩
        · exact hak 0 (by omega) e.symm
        · exact ha s2 (.inr (by simp [BT.slots, m1])) c2 m2 i2 m3 e.symm
      · simp only [BT.slots]
        exact ((List.Perm.cons s (hperm.append_right _)).trans (List.Perm.swap _ _ _))
    · obtain ⟨r', hr', hperm⟩ := hr.leaf hj hn0 hn1 hcn k0 k1 hp hndr hnr (hkid r hsr 1 (by omega))
      have hane : ∀ s', s' = s ∧ True ∨ s' ∈ l.slots → ∀ c', ch (s' / 2048) = some c' → ∀ side, side < 2 → (s' = s → side = 0) → a ≠ kid c' s' side := by
        intro s' hs' c' hc' side hside hone e
        rcases hp.where_ with rfl | ⟨s2, c2, i2, m1, m2, m3, rfl⟩
        · have := hj.kid hc hc' (by omega : 1 < 2) hside e
          have := hone this.1.symm
          omega
        · have := (hj.kid m2 hc' m3 hside e).1
          subst this
          rcases hs' with ⟨rfl, _⟩ | hs'
          · exact hsr m1
          · exact hdis _ hs' _ m1 rfl
      refine ⟨.node s l r', ?_, ?_⟩
      · unfold IsT
        refine ⟨?_, h2, h3, c, hc, hl.setFar (hane s (.inl ⟨rfl, trivial⟩) c hc 0 (by omega) (fun _ => rfl)) (fun s' hs' c' hc' side hside => hane s' (.inr hs') c' hc' side hside (fun e => by subst e; exact absurd hs' hsl)), hr'⟩
        rw [World.cell?_setCell_other _ _ _ _ ?_]; exact h1
        intro e
        rcases hp.where_ with rfl | ⟨s2, c2, i2, m1, m2, m3, rfl⟩
        · exact hak 1 (by omega) e.symm
        · exact ha s2 (.inr (by simp [BT.slots, m1])) c2 m2 i2 m3 e.symm
      · simp only [BT.slots]
        refine (List.Perm.cons s ((hperm.append_left _).trans ?_)).trans (List.Perm.swap _ _ _)
        exact List.perm_middle

/-- How many links lie below a link: for the loop's measure. -/
noncomputable def msr (w : World) (ch : Nat → Option Nat) (v : Value) : Nat :=
  open Classical in if h : ∃ n a t, v = .pointer (some a) ∧ IsT w ch a t ∧ t.slots.length = n then Classical.choose h else 0
theorem msr_eq {w : World} {ch : Nat → Option Nat} {a : Addr} {t : BT} (h : IsT w ch a t) : msr w ch (.pointer (some a)) = t.slots.length := by
  unfold msr
  have hx : ∃ n a' t, Value.pointer (some a) = .pointer (some a') ∧ IsT w ch a' t ∧ t.slots.length = n := ⟨_, a, t, rfl, h, rfl⟩
  rw [dif_pos hx]
  obtain ⟨a', t', e, h', hn⟩ := Classical.choose_spec hx
  rw [← hn]
  injection e with q; injection q with q
  subst q
  rw [h'.uniq h]
end Go.Proofs.YbulkbjwiFmt
