/-
  SEAT b3037aF: Insert, walked.
-/
import Derived.Test.YbulkbjwiFmtMem2
import Derived.Laws.IdiomCopy
import Derived.Deep.Slices
namespace Go.Proofs.YbulkbjwiFmt
open Go.RowKit
attribute [local go_sem ↓] Go.wp_at_zero Go.wp_at_succ
attribute [local go_sem] run_store_float_ok okAt_setCell okAt_alloc okAt_drew okAt_new

theorem Fr.drewN (own : Nat → Prop) (w : World) (n : Nat) : Fr own w (w.drewN n) := ⟨rfl, rfl, rfl, Nat.le_refl _, fun _ _ _ => rfl, fun _ _ => rfl⟩
theorem Pt.fr {own : Nat → Prop} {w w' : World} {b d : Nat} (h : Pt w b d) (hf : Fr own w w') (hn : ¬ own b) : Pt w' b d := by
  intro j hj
  obtain ⟨x, h1, h2⟩ := h j hj
  exact ⟨x, hf.cell h1 hn, h2⟩

theorem below_all {w w' : World} (h : Below w.heap.size w w') : ∀ (a : Addr) (v : Value), w.cell? a = some v → w'.cell? a = some v := fun a _ hc => (h.cell (p := a) (World.block_lt_of_cell? _ _ hc)).trans hc
theorem Pos.mem {ch : Nat → Option Nat} : ∀ {t : BT} {a0 a : Addr} {sub : BT} {s : Nat} {l r : BT}, Pos ch a0 t a sub → sub = .node s l r → s ∈ t.slots
  | .nil, _, _, _, _, _, _, h, e => by rw [h.2] at e; cases e
  | .node s' l' r', _, _, _, s, l, r, h, e => by
    rcases h with ⟨_, h2⟩ | ⟨_, _, h | h⟩
    · rw [h2] at e; cases e; simp [BT.slots]
    · simp [BT.slots, h.mem e]
    · simp [BT.slots, h.mem e]

section
variable {w w' : World} {B T AX d cap : Nat} {pg fp : Option Nat} {ch fc : Nat → Option Nat} {t : BT}

theorem Mem.ownT (h : Mem w B T AX d cap pg ch fp fc t) : ∀ b, (b = T ∨ pg = some b) → Own B w b := by
  rintro b (rfl | e)
  · exact ⟨h.geT, _, _, h.shT, .inl rfl⟩
  · exact ⟨h.gep b e, _, _, h.nd.page b e, .inr (.inl rfl)⟩
theorem Mem.ownF (h : Mem w B T AX d cap pg ch fp fc t) : ∀ b, (b = T ∨ fp = some b) → Own B w b := by
  rintro b (rfl | e)
  · exact ⟨h.geT, _, _, h.shT, .inl rfl⟩
  · exact ⟨h.gef b e, _, _, h.far.page b e, by simp⟩
theorem Mem.ownC (h : Mem w B T AX d cap pg ch fp fc t) {k c : Nat} (hc : ch k = some c) : Own B w c := ⟨h.gec k c hc, _, _, h.nd.chunk k c hc, by simp⟩
theorem Mem.ownD (h : Mem w B T AX d cap pg ch fp fc t) {k c : Nat} (hc : fc k = some c) : Own B w c := ⟨h.gefc k c hc, _, _, h.far.chunk k c hc, by simp⟩
/-- A link can be written, and lies in a block of the tree's own. -/
theorem Mem.link (h : Mem w B T AX d cap pg ch fp fc t) {a : Addr} {sub : BT} (hp : Pos ch ⟨T, 1, none⟩ t a sub) : w.frozen? a = false ∧ Own B w a.block := by
  rcases hp.where_ with rfl | ⟨s, c, side, _, h2, h3, rfl⟩
  · exact ⟨h.rootz, h.ownT T (.inl rfl)⟩
  · exact ⟨h.kf s c h2 side h3, h.ownC h2⟩
theorem Mem.pgSome (h : Mem w B T AX d cap pg ch fp fc t) {k c : Nat} (hc : ch k = some c) : ∃ P, pg = some P := by
  cases e : pg with
  | some P => exact ⟨P, rfl⟩
  | none => rw [h.nd.none_ e k] at hc; cases hc
theorem Mem.atNode (h : Mem w B T AX d cap pg ch fp fc t) {s c : Nat} (hs : s < 4096) (hc : ch (s / 2048) = some c) :
    Calls Ybaf.prog 9 #[.pointer (some ⟨T, 2, none⟩), .int .u32 s] w fun e w' => e = .returned (.pointer (some ⟨c, s % 2048 * 4, none⟩)) ∧ w' = w := by
  obtain ⟨P, hP⟩ := h.pgSome hc
  have h1 := h.nd.top
  have h2 := (h.nd.cell P hP (s / 2048) (by omega)).1
  rw [hP] at h1
  rw [hc] at h2
  exact YbulkbjwiFmt.atNode T 2 P c s w hs h1 (h.nd.page P hP) h2 (h.nd.chunk _ c hc)
/-- The node's own point: d floats that lie in one row. -/
theorem Mem.point (h : Mem w B T AX d cap pg ch fp fc t) {s c j : Nat} (hj : j < d) (hs : s < 4096) (hc : ch (s / 2048) = some c) (hm : s ∈ t.slots) :
    ∃ qb qo qc qx, w.cell? ⟨qb, qo + j, none⟩ = some (.float .f64 qx) ∧ ∀ w', w'.heap = w.heap → Calls Ybaf.prog 33 #[.pointer (some ⟨T, 0, none⟩), .int .u32 s, .pointer (some ⟨c, s % 2048 * 4, none⟩)] w' fun e w'' => e = .returned (.slice (some ⟨qb, qo, none⟩) d qc) ∧ w'' = w' := by
  have hd3 := h.d3
  have hfr : ∀ w' : World, w'.heap = w.heap → ∀ a, w'.cell? a = w.cell? a := fun w' e a => World.cell?_of_block (by rw [e])
  have hsh : ∀ w' : World, w'.heap = w.heap → ∀ b, w'.shape? b = w.shape? b := fun w' e b => shape_of_block (by rw [e])
  rcases (by omega : d ≤ 2 ∨ d = 3) with hd | hd
  · obtain ⟨x, hx, _⟩ := h.inl s c hc j (by omega)
    refine ⟨c, s % 2048 * 4 + 2, d, x, hx, fun w' e => ?_⟩
    exact point_in T AX d cap s c _ w' (h.ax.kept (hfr w' e _) (by rw [e])) hd
  · subst hd
    obtain ⟨f, q, cp, m, h1, h2, _, _, h5⟩ := h.pts rfl s hm
    obtain ⟨x, hx⟩ := h5 j hj
    obtain ⟨FP, hFP⟩ : ∃ P, fp = some P := by
      cases e : fp with
      | some P => exact ⟨P, rfl⟩
      | none => rw [h.far.none_ e] at h1; cases h1
    have t1 := h.far.top
    have t2 := (h.far.cell FP hFP (s / 2048) (by omega)).1
    rw [hFP] at t1
    rw [h1] at t2
    refine ⟨q, 0, cp, x, by simpa using hx, fun w' e => ?_⟩
    exact point_far T AX cap s c _ FP f q cp w' (h.ax.kept (hfr w' e _) (by rw [e])) hs ((hfr w' e _).trans t1) ((hsh w' e _).trans (h.far.page FP hFP)) ((hfr w' e _).trans t2) ((hsh w' e _).trans (h.far.chunk _ f h1)) ((hfr w' e _).trans h2)
theorem not_own {b m : Nat} (h : w.shape? b = some (58, m)) : ¬ Own B w b := by
  rintro ⟨_, e, n, h1, h2⟩
  rw [h] at h1; cases h1; simp at h2
end

/-- The row of floats that copy puts into a node. -/
theorem copy_inline (w : World) (c o b d cp ty : Nat) (f : Nat → Nat) (hd : d ≤ 2) (hsrc : ∀ j, j < d → w.cell? ⟨b, j, none⟩ = some (.float .f64 (f j))) (hdst : ∀ j, j < 2 → (w.cell? ⟨c, o + j, none⟩).isSome = true ∧ w.frozen? ⟨c, o + j, none⟩ = false) :
    (Builtin.copy_ #[72, 72] ty #[.slice (some ⟨c, o, none⟩) 2 2, .slice (some ⟨b, 0, none⟩) d cp]).run Ybaf.prog w = .ok (goInt d) (w.setCells c o ((List.range d).map fun j => .float .f64 (f j))) := by
  have := run_copy_cells (P := Ybaf.prog) w 72 72 ty 58 c o 2 2 ⟨b, 0, none⟩ d cp ((List.range d).map fun j => .float .f64 (f j)) Ybaf.underlying72 (by kernel_rfl) (by simp [Nat.min_eq_left hd])
    (fun j v hj => by
      have := cells_list w b d (fun j => .float .f64 (f j)) hsrc j v hj
      rw [Addr.add_lit]; simpa using this.2)
    (fun j hj => (hdst j (by simp at hj; omega)).1) (fun j hj => (hdst j (by simp at hj; omega)).2) (fun v hv => by obtain ⟨x, _, rfl⟩ := List.mem_map.1 hv; rfl)
  simpa using this

theorem Pt.fn {w : World} {b d : Nat} (h : Pt w b d) : ∃ f : Nat → Nat, ∀ j, j < d → w.cell? ⟨b, j, none⟩ = some (.float .f64 (f j)) := by
  have h' : ∀ j, ∃ x : Nat, j < d → w.cell? ⟨b, j, none⟩ = some (.float .f64 x) := by
    intro j
    by_cases hj : j < d
    · obtain ⟨x, hx, _⟩ := h j hj
      exact ⟨x, fun _ => hx⟩
    · exact ⟨0, fun q => absurd q hj⟩
  exact ⟨fun j => Classical.choose (h' j), fun j hj => Classical.choose_spec (h' j) hj⟩
theorem Mem.farStoreN {w : World} {B T AX d cap : Nat} {pg fp : Option Nat} {ch fc : Nat → Option Nat} {t : BT} (h : Mem w B T AX d cap pg ch fp fc t) {s c q cp m n : Nat} (hn : n = 3) (hs : s ∉ t.slots) (hc : fc (s / 2048) = some c) (hcp : n ≤ cp) (hq : w.shape? q = some (58, m))
    (hx : ∀ j, j < n → ∃ x, w.cell? ⟨q, j, none⟩ = some (.float .f64 x)) :
    Mem (w.setCell ⟨c, s % 2048, none⟩ (.slice (some ⟨q, 0, none⟩) n cp)) B T AX d cap pg ch fp fc t ∧ FarPt (w.setCell ⟨c, s % 2048, none⟩ (.slice (some ⟨q, 0, none⟩) n cp)) fc s := by
  subst hn
  exact h.farStore hs hc hcp hq hx
theorem row_new (w : World) : Row16 (w.alloc (.cells #[.float .f64 0, .float .f64 0, .float .f64 0, .float .f64 0, .float .f64 0, .float .f64 0, .float .f64 0, .float .f64 0, .float .f64 0, .float .f64 0, .float .f64 0, .float .f64 0, .float .f64 0, .float .f64 0, .float .f64 0, .float .f64 0] 101)) w.heap.size := by
  intro j hj
  exact ⟨0, cellNew w _ 101 j _ (by rcases (by omega : j = 0 ∨ j = 1 ∨ j = 2 ∨ j = 3 ∨ j = 4 ∨ j = 5 ∨ j = 6 ∨ j = 7 ∨ j = 8 ∨ j = 9 ∨ j = 10 ∨ j = 11 ∨ j = 12 ∨ j = 13 ∨ j = 14 ∨ j = 15) with rfl | rfl | rfl | rfl | rfl | rfl | rfl | rfl | rfl | rfl | rfl | rfl | rfl | rfl | rfl | rfl <;> rfl), frozNew _ _ _ _⟩
theorem copied {w : World} {B T AX d cap : Nat} {pg fp : Option Nat} {ch fc : Nat → Option Nat} {t : BT} {s c : Nat} (h : Mem w B T AX d cap pg ch fp fc t) (hk : ch (s / 2048) = some c) (h0 : 0 < d) (hd : d ≤ 2) (f : Nat → Nat) :
    Mem (w.setCells c (s % 2048 * 4 + 2) ((List.range d).map fun j => .float .f64 (f j))) B T AX d cap pg ch fp fc t ∧ Fr (Own B w) w (w.setCells c (s % 2048 * 4 + 2) ((List.range d).map fun j => .float .f64 (f j))) := by
  have ho := h.ownC hk
  rcases (by omega : d = 1 ∨ d = 2) with rfl | rfl
  · simp only [List.range_succ, List.range_zero, List.nil_append, List.map_cons, List.map_nil, World.setCells]
    exact ⟨h.inline hk (by omega : 0 < 2) _, Fr.setCell _ _ _ _ ho⟩
  · simp only [List.range_succ, List.range_zero, List.nil_append, List.cons_append, List.map_cons, List.map_nil, World.setCells]
    exact ⟨(h.inline hk (by omega : 0 < 2) _).inline hk (by omega : 1 < 2) _, (Fr.setCell _ _ _ _ ho).trans (Fr.setCell _ _ _ _ ho)⟩

set_option maxRecDepth 100000 in
set_option maxHeartbeats 4000000 in
theorem insert_any (B T AX d cap : Nat) (pg fp : Option Nat) (ch fc : Nat → Option Nat) (t : BT) (s b cp m : Nat) (w : World) (hM : Mem w B T AX d cap pg ch fp fc t) (hB : B ≤ w.heap.size) (hs0 : 0 < s) (hs1 : s < 4096) (hsn : s ∉ t.slots)
    (hp : Pt w b d) (hpb : w.shape? b = some (58, m)) :
    Calls Ybaf.prog 15 #[.pointer (some ⟨T, 0, none⟩), .int .u32 s, .slice (some ⟨b, 0, none⟩) d cp] w fun e w' => e = .returned .nilIface ∧ ∃ pg' ch' fp' fc' t', Mem w' B T AX d cap pg' ch' fp' fc' t' ∧ t'.slots.Perm (s :: t.slots) ∧ Fr (Own B w) w w' := by
  have e1 : decide ((s : Int) = 0) = false := by simp; omega
  have e2 : decide ((2147483647 : Int) < (s : Int)) = false := by simp; omega
  go_enter Ybaf.func15, Ybaf.ntmps15
  go_wp2_with fail
  refine (check_any T AX d cap b cp w hM.ax hM.d3 hp).mono ?_
  rintro e w1 ⟨rfl, n1, hw1⟩
  have hf1 : Fr (Own B w) w w1 := by rw [hw1]; exact Fr.drewN _ _ _
  have hM1 : Mem w1 B T AX d cap pg ch fp fc t := by rw [hw1]; exact hM.fr (Fr.drewN _ _ _) (Free.none _)
  clear hw1
  go_wp2_with fail
  refine (makeNode T 2 s pg ch w1 hs1 hM1.nd (fun e n h => by rw [hM1.shT] at h; cases h; decide)).mono ?_
  rintro e w2 ⟨P, c, ch', rfl, ha, hk, hoth, hP, hc, hf2, hTc⟩
  have hM2 := hM1.makeNode (by have := hf1.size; omega) ha hk hoth hP hc hf2 hTc
  have hF2 : Fr (Own B w) w w2 := hf1.own (hf2.mono (fun b _ => hM1.ownT b))
  have hp2 : Pt w2 b d := hp.fr hF2 (not_own hpb)
  have hpb2 : w2.shape? b = some (58, m) := (hF2.shape b (shape_lt hpb)).trans hpb
  clear hM1 hf1 ha hoth hP hc hf2 hTc
  have hd3 := hM.d3
  have hd0 := hM.d0
  clear hM
  obtain ⟨pg2, hpg2⟩ : ∃ pg2, pg2 = some P := ⟨_, rfl⟩
  rw [← hpg2] at hM2
  rcases (by omega : d ≤ 2 ∨ d = 3) with hd2 | hd2
  case' inl =>
    have dd : decide ((d : Int) ≤ 2) = true := by simp; omega
    obtain ⟨f, hf⟩ := hp2.fn
    have hcopy := fun ty => copy_inline w2 c (s % 2048 * 4 + 2) b d cp ty f hd2 hf (fun j hj => by obtain ⟨x, h1, h2⟩ := hM2.inl s c hk j hj; exact ⟨by rw [h1]; rfl, h2⟩)
    obtain ⟨v3, hv3⟩ : ∃ v3, v3 = w2.setCells c (s % 2048 * 4 + 2) ((List.range d).map fun j => .float .f64 (f j)) := ⟨_, rfl⟩
    rw [← hv3] at hcopy
    obtain ⟨hM3, hf3⟩ : Mem v3 B T AX d cap pg2 ch' fp fc t ∧ Fr (Own B w2) w2 v3 := by rw [hv3]; exact copied hM2 hk hd0 hd2 f
    have hF3 : Fr (Own B w) w v3 := hF2.own hf3
    have hp3 : Pt v3 b d := hp2.fr hf3 (not_own hpb2)
    have hpb3 : v3.shape? b = some (58, m) := (hf3.shape b (shape_lt hpb2)).trans hpb2
    obtain ⟨fp3, fc3, hM3, hfar⟩ : ∃ fp3 fc3, Mem v3 B T AX d cap pg2 ch' fp3 fc3 t ∧ (d = 3 → FarPt v3 fc3 s) := ⟨fp, fc, hM3, fun h => by omega⟩
    clear hv3 hM2 hF2 hp2 hpb2 hf hf3
    go_wp2_with fail
    clear hcopy dd hd2
    obtain ⟨w3, rfl⟩ : ∃ w3, w3 = v3 := ⟨_, rfl⟩
  case' inr =>
    have dd : decide ((d : Int) ≤ 2) = false := by simp; omega
    have d16 : d ≤ 16 := by omega
    replace hd2 : Hid _ := hd2
    obtain ⟨f, hf⟩ := hp2.fn
    go_wp2_with fail
    refine (makeFar T 1026 s fp fc w2 hs1 hM2.far (fun e n h => by rw [hM2.shT] at h; cases h; decide)).mono ?_
    rintro e v3 ⟨P2, c2, fc', rfl, ha, hk2, hoth, hP, hc, hf3, hTc⟩
    have hM3 := hM2.makeFar (by have := hF2.size; omega) ha hk2 hoth hP hc hf3 hTc
    have hf3' : Fr (Own B w2) w2 v3 := hf3.mono (fun b _ => hM2.ownF b)
    have hF3 : Fr (Own B w) w v3 := hF2.own hf3'
    have hp3 : Pt v3 b d := hp2.fr hf3' (not_own hpb2)
    have hpb3 : v3.shape? b = some (58, m) := (hf3'.shape b (shape_lt hpb2)).trans hpb2
    have hf4 : ∀ j, j < d → v3.cell? ⟨b, j, none⟩ = some (.float .f64 (f j)) := fun j hj => hf3'.cell (hf j hj) (not_own hpb2)
    clear ha hoth hP hc hf3 hTc hM2 hF2 hp2 hpb2 hf hf3'
    go_wp2_with fail
    refine (clone_float b d cp (fun j => .float .f64 (f j)) v3 d16 (fun _ => rfl) hf4).mono ?_
    rintro e v4 ⟨g, cap4, m4, rfl, hcap4, hg, hsh4, hcl4, hb4⟩
    have hf4' : Fr (fun _ => False) v3 v4 := Fr.of_below hb4
    have hM4 := hM3.fr hf4' (Free.none _)
    have hp4 : Pt v4 b d := hp3.fr hf4' (fun h => h)
    have hpb4 : v4.shape? b = some (58, m) := (hf4'.shape b (shape_lt hpb3)).trans hpb3
    have hF4 : Fr (Own B w) w v4 := hF3.trans' hf4' (fun _ _ h => h.elim)
    obtain ⟨u4, hu4, hz4⟩ := hM4.fok s c2 hk2
    obtain ⟨hM5, hfar5⟩ := hM4.farStoreN (q := g) (cp := cap4) (m := m4) hd2.out hsn hk2 hcap4 hsh4 (fun j hj => ⟨f j, hcl4 j hj⟩)
    have hf5 : Fr (Own B v4) v4 (v4.setCell ⟨c2, s % 2048, none⟩ (.slice (some ⟨g, 0, none⟩) d cap4)) := Fr.setCell _ _ _ _ (hM4.ownD hk2)
    have hF5 := hF4.own hf5
    have hp5 := hp4.fr hf5 (not_own hpb4)
    have hpb5 := (hf5.shape b (shape_lt hpb4)).trans hpb4
    clear hM3 hF3 hp3 hpb3 hf4 hcl4 hb4 hf4' hM4 hp4 hpb4 hF4 hf5
    replace hM5 : Hid _ := hM5
    replace hfar5 : Hid _ := hfar5
    replace hF5 : Hid _ := hF5
    replace hp5 : Hid _ := hp5
    replace hpb5 : Hid _ := hpb5
    go_wp2_with fail
    obtain ⟨w3, hw3⟩ : ∃ w3, w3 = v4.setCell ⟨c2, s % 2048, none⟩ (.slice (some ⟨g, 0, none⟩) d cap4) := ⟨_, rfl⟩
    rw [← hw3] at hM5 hfar5 hF5 hp5 hpb5 ⊢
    have hsz : v4.heap.size = w3.heap.size := by rw [hw3]; simp [World.setCell]
    rw [hsz]
    have hM3 := hM5.out
    have hF3 := hF5.out
    have hp3 : Pt w3 b d := hp5.out
    have hpb3 := hpb5.out
    obtain ⟨fp3, fc3, hM3, hfar⟩ : ∃ fp3 fc3, Mem w3 B T AX d cap pg2 ch' fp3 fc3 t ∧ (d = 3 → FarPt w3 fc3 s) := ⟨_, _, hM3, fun _ => hfar5.out⟩
    clear hM5 hF5 hp5 hpb5 hfar5 hw3 hsz hd2 dd hu4 hz4 d16 hk2
  all_goals
    clear hpg2 hp hpb
    obtain ⟨w4, hw4⟩ : ∃ w4, w4 = (w3.alloc (.cells #[.float .f64 0, .float .f64 0, .float .f64 0, .float .f64 0, .float .f64 0, .float .f64 0, .float .f64 0, .float .f64 0, .float .f64 0, .float .f64 0, .float .f64 0, .float .f64 0, .float .f64 0, .float .f64 0, .float .f64 0, .float .f64 0] 101)).alloc (.cells #[.float .f64 0, .float .f64 0, .float .f64 0, .float .f64 0, .float .f64 0, .float .f64 0, .float .f64 0, .float .f64 0, .float .f64 0, .float .f64 0, .float .f64 0, .float .f64 0, .float .f64 0, .float .f64 0, .float .f64 0, .float .f64 0] 101) := ⟨_, rfl⟩
    rw [← hw4]
    have hf4 : Fr (fun _ => False) w3 w4 := by rw [hw4]; exact (Fr.alloc _ _ _).trans (Fr.alloc _ _ _)
    have r1 : Row16 w4 w3.heap.size := by rw [hw4]; exact (row_new w3).alloc _
    have r2 : Row16 w4 (w3.heap.size + 1) := by rw [hw4]; have := row_new (w3.alloc (.cells #[.float .f64 0, .float .f64 0, .float .f64 0, .float .f64 0, .float .f64 0, .float .f64 0, .float .f64 0, .float .f64 0, .float .f64 0, .float .f64 0, .float .f64 0, .float .f64 0, .float .f64 0, .float .f64 0, .float .f64 0, .float .f64 0] 101)); simpa using this
    have sh1 : w4.shape? w3.heap.size = some (101, 16) := by
      rw [hw4, shape_of_block (Below.heap_alloc _ _ _ (by simp)), shapeNew]; rfl
    have sh2 : w4.shape? (w3.heap.size + 1) = some (101, 16) := by
      have := shapeNew (w3.alloc (.cells #[.float .f64 0, .float .f64 0, .float .f64 0, .float .f64 0, .float .f64 0, .float .f64 0, .float .f64 0, .float .f64 0, .float .f64 0, .float .f64 0, .float .f64 0, .float .f64 0, .float .f64 0, .float .f64 0, .float .f64 0, .float .f64 0] 101)) #[.float .f64 0, .float .f64 0, .float .f64 0, .float .f64 0, .float .f64 0, .float .f64 0, .float .f64 0, .float .f64 0, .float .f64 0, .float .f64 0, .float .f64 0, .float .f64 0, .float .f64 0, .float .f64 0, .float .f64 0, .float .f64 0] 101
      rw [hw4]; simpa using this
    have hM4 := hM3.fr hf4 (Free.none _)
    have hF4 : Fr (Own B w) w w4 := hF3.trans' hf4 (fun _ _ h => h.elim)
    have hp4 := hp3.fr hf4 (fun h => h)
    have hpb4 := (hf4.shape b (shape_lt hpb3)).trans hpb3
    have hfar4 : d = 3 → FarPt w4 fc3 s := fun e => (hfar e).fr hM3.far.chunk hf4 (Free.none _)
    have hsz4 : w.heap.size ≤ w3.heap.size := hF3.size
    have ltT := shape_lt hM3.shT
    have ltA : AX < w3.heap.size := by obtain ⟨mA, hA⟩ := hM3.shA; exact shape_lt hA
    clear hw4 hM3 hF3 hp3 hpb3 hfar hf4
    generalize w3.heap.size = LO at *
    refine (whole_any T AX d cap LO (LO + 1) w4 hM4.ax hd0 hd3 r1 r2 (by omega) (by omega) (by omega) (by omega)).mono ?_
    rintro e w5 ⟨rfl, hf5, q1, q2⟩
    have hfree : Free w4 (fun b => b = LO ∨ b = LO + 1) := by
      rintro b (rfl | rfl) e n h
      · rw [sh1] at h; cases h; unfold Kind; decide
      · rw [sh2] at h; cases h; unfold Kind; decide
    have hM5 := hM4.fr hf5 hfree
    have hF5 : Fr (Own B w) w w5 := hF4.trans' hf5 (fun i hi h => by omega)
    have hp5 : Pt w5 b d := hp4.fr hf5 (fun h => by rcases h with rfl | rfl; rw [sh1] at hpb4; cases hpb4; rw [sh2] at hpb4; cases hpb4)
    have hfar5 : d = 3 → FarPt w5 fc3 s := fun e => (hfar4 e).fr hM4.far.chunk hf5 hfree
    have sh1' := (hf5.shape LO (shape_lt sh1)).trans sh1
    have sh2' := (hf5.shape (LO + 1) (shape_lt sh2)).trans sh2
    have hpb5 := (hf5.shape b (shape_lt hpb4)).trans hpb4
    clear hM4 hF4 hp4 hfar4 hf5 hfree sh1 sh2 hpb4 r1 r2
    go_wp2_with fail
    go_loopw [9, 12] (fun lk a wr => ∃ (L off j : Nat) (sub : BT), lk = .pointer (some ⟨L, off, none⟩) ∧ a = .int .i64 j ∧ j < d ∧ Pos ch' ⟨T, 1, none⟩ t ⟨L, off, none⟩ sub ∧ Mem wr B T AX d cap pg2 ch' fp3 fc3 t ∧ Row16 wr LO ∧ Row16 wr (LO + 1) ∧ Fr (fun b => b = LO ∨ b = LO + 1) w5 wr)
      (fun lk _ wr => msr wr ch' lk)
    case atStart => exact ⟨T, 1, 0, t, rfl, rfl, hd0, Pos.refl _ _ _, hM5, q1, q2, Fr.refl _ _⟩
    case round =>
      obtain ⟨L, off, j, sub, rfl, rfl, hj, hpos, hMr, h1, h2, hfr⟩ := hrel
      obtain ⟨hz, hown⟩ := hMr.link hpos
      have hF : Fr (Own B w) w wr := hF5.trans' hfr (fun i hi h => by omega)
      have hfree : Free w5 (fun b => b = LO ∨ b = LO + 1) := by
        rintro b (rfl | rfl) e n h
        · rw [sh1'] at h; cases h; unfold Kind; decide
        · rw [sh2'] at h; cases h; unfold Kind; decide
      have hfarr : d = 3 → FarPt wr fc3 s := fun e => (hfar5 e).fr hM5.far.chunk hfr hfree
      have hpr : Pt wr b d := hp5.fr hfr (fun h => by rcases h with rfl | rfl; rw [sh1'] at hpb5; cases hpb5; rw [sh2'] at hpb5; cases hpb5)
      have hit := hpos.isT hMr.root
      cases sub with
      | nil =>
        unfold IsT at hit
        obtain ⟨t', hM6, hperm⟩ := hMr.leaf hs0 hs1 hsn hk hpos hfarr
        have hF6 := hF.own (Fr.setCell (Own B wr) wr ⟨L, off, none⟩ (.int .u32 s) hown)
        replace hM6 : Hid _ := hM6
        replace hF6 : Hid _ := hF6
        go_wp2_with (first
          | (go_at_call 8; refine (loadM L off 0 _ hit).mono ?_; rintro e w' ⟨rfl, rfl⟩)
          | (go_at_call 31; refine (casM L off 0 s _ hit hz).mono ?_; rintro e w' ⟨rfl, rfl⟩))
        go_ret
        exact ⟨rfl, _, _, _, _, t', hM6.out, hperm, hF6.out⟩
      | node s2 l r =>
        have hmsr := msr_eq hit
        unfold IsT at hit
        obtain ⟨hcell, hs20, hs21, c2, hc2, hl, hr⟩ := hit
        have hat := hMr.atNode hs21 hc2
        have e3 : decide ((s2 : Int) = 0) = false := by simp; omega
        go_wp2_with (first
          | (go_at_call 8; refine (loadM L off s2 _ hcell).mono ?_; rintro e w' ⟨rfl, he⟩; obtain rfl := he.symm)
          | (go_at_call 9; refine hat.mono ?_; rintro e w' ⟨rfl, he⟩; obtain rfl := he.symm))
        have hax := hMr.ax.ax
        obtain ⟨z0, z1, z2⟩ := hMr.ax.z j hj
        obtain ⟨y1, l1, m1⟩ := h1 j (by omega)
        obtain ⟨y2, l2, m2⟩ := h2 j (by omega)
        obtain ⟨px, hpx, _⟩ := hpr j hj
        obtain ⟨qb, qo, qc, qx, hqx, hpt⟩ := hMr.point hj hs21 hc2 (hpos.mem rfl)
        have jd : (j : Int) < (d : Int) := by omega
        have j16 : (j : Int) < 16 := by omega
        go_region_held3 (fun w' => w'.cell? ⟨T, 0, none⟩ = some (.slice (some ⟨AX, 0, none⟩) d cap) ∧ w'.cell? ⟨AX, j * 3, none⟩ = some (.float .f64 0) ∧ w'.cell? ⟨AX, j * 3 + 1, none⟩ = some (.float .f64 0) ∧ w'.cell? ⟨AX, j * 3 + 2, none⟩ = some (.float .f64 0) ∧
            w'.cell? ⟨LO, j, none⟩ = some (.float .f64 y1) ∧ w'.cell? ⟨LO + 1, j, none⟩ = some (.float .f64 y2) ∧ w'.cell? ⟨qb, qo + j, none⟩ = some (.float .f64 qx)) (simp [*]) (first
          | (go_at_call 33; refine Calls.mono (hpt _ ?_) ?_; rfl; rintro e w' ⟨rfl, rfl⟩)
          | (go_at_call 32; refine (split_zero qx y1 y2 _).mono ?_; rintro e w7 ⟨rfl, hb⟩; have hbc := below_all hb))
        have hf7 : Fr (fun _ => False) wr w7 := (Fr.drewR (Fr.refl _ wr)).trans (Fr.of_below hb)
        have hM7 := hMr.fr hf7 (Free.none _)
        have hpx7 : w7.cell? ⟨b, j, none⟩ = some (.float .f64 px) := hf7.cell hpx (fun h => h)
        have r1 := h1.fr hf7 (fun h => h)
        have r2 := h2.fr hf7 (fun h => h)
        have hfr7 : Fr (fun b => b = LO ∨ b = LO + 1) w5 w7 := hfr.trans' hf7 (fun _ _ h => h.elim)
        obtain ⟨x1, a1, b1⟩ := r1 j (by omega)
        obtain ⟨x2, a2, b2⟩ := r2 j (by omega)
        have k1 := okAt_of a1 b1
        have k2 := okAt_of a2 b2
        have shl : ∀ X, X = LO ∨ X = LO + 1 → Free w7 (fun b => b = X) := by
          rintro X hX b rfl e n h
          have q1 := (hfr7.shape LO (shape_lt sh1')).trans sh1'
          have q2 := (hfr7.shape (LO + 1) (shape_lt sh2')).trans sh2'
          rcases hX with rfl | rfl
          · rw [q1] at h; cases h; unfold Kind; decide
          · rw [q2] at h; cases h; unfold Kind; decide
        have hM8 : ∀ X, X = LO ∨ X = LO + 1 → Mem (w7.setCell ⟨X, j, none⟩ (.float .f64 qx)) B T AX d cap pg2 ch' fp3 fc3 t := fun X hX => hM7.fr (Fr.setCell (fun b => b = X) w7 _ _ rfl) (shl X hX)
        have hM8a := hM8 LO (.inl rfl)
        have hM8b := hM8 (LO + 1) (.inr rfl)
        obtain ⟨p0, p1⟩ := hpos.step hc2
        have ms0 := msr_eq (p0.isT hM8b.root)
        have ms1 := msr_eq (p1.isT hM8a.root)
        have ra1 := r1.set j qx LO
        have ra2 := r2.set j qx LO
        have rb1 := r1.set j qx (LO + 1)
        have rb2 := r2.set j qx (LO + 1)
        have fa := hfr7.setR ⟨LO, j, none⟩ (.float .f64 qx) (.inl rfl)
        have fb := hfr7.setR ⟨LO + 1, j, none⟩ (.float .f64 qx) (.inr rfl)
        replace hM8a : Hid _ := hM8a
        replace hM8b : Hid _ := hM8b
        replace ms0 : Hid _ := ms0
        replace ms1 : Hid _ := ms1
        replace ra1 : Hid _ := ra1
        replace ra2 : Hid _ := ra2
        replace rb1 : Hid _ := rb1
        replace rb2 : Hid _ := rb2
        replace fa : Hid _ := fa
        replace fb : Hid _ := fb
        replace hmsr : Hid _ := hmsr
        clear hb hbc hM7 hM8 r1 r2 hfr7 shl a1 b1 a2 b2 hfr hMr h1 h2 hpr hf7 hl hr hat hz hown hF hfree hfarr hax z0 z1 z2 l1 m1 l2 m2 hqx hpt hpx hcell
        cases hcmp : (FloatKind.f64.format.order px qx == some .gt || FloatKind.f64.format.order px qx == some .eq)
        · go_wp2_with (go_at_call 30; refine (next_any T AX d cap j _ hM8b.out.ax hd3 hj).mono ?_; rintro e w' ⟨⟨a', ha', rfl⟩, he⟩; obtain rfl := he)
          refine ⟨⟨c2, s2 % 2048 * 4, a', l, rfl, rfl, ha', p0, hM8b.out, rb1.out, rb2.out, fb.out⟩, ?_⟩
          have e4 : msr (w7.setCell ⟨LO + 1, j, none⟩ (.float .f64 qx)) ch' (.pointer (some ⟨c2, s2 % 2048 * 4, none⟩)) = l.slots.length := ms0.out
          rw [e4, hmsr.out]
          simp [BT.slots]
          omega
        · go_wp2_with (go_at_call 30; refine (next_any T AX d cap j _ hM8a.out.ax hd3 hj).mono ?_; rintro e w' ⟨⟨a', ha', rfl⟩, he⟩; obtain rfl := he)
          refine ⟨⟨c2, s2 % 2048 * 4 + 1, a', r, rfl, rfl, ha', p1, hM8a.out, ra1.out, ra2.out, fa.out⟩, ?_⟩
          have e4 : msr (w7.setCell ⟨LO, j, none⟩ (.float .f64 qx)) ch' (.pointer (some ⟨c2, s2 % 2048 * 4 + 1, none⟩)) = r.slots.length := ms1.out
          rw [e4, hmsr.out]
          simp [BT.slots]
          omega
end Go.Proofs.YbulkbjwiFmt
