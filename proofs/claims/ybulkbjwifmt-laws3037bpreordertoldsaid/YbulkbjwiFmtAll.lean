/-
  SEAT b3037aF: walk by induction on the tree, and All.
-/
import Derived.Test.YbulkbjwiFmtWalk
namespace Go.Proofs.YbulkbjwiFmt
open Go.RowKit
attribute [local go_sem ↓] Go.wp_at_zero Go.wp_at_succ

/-- What the walk is told of its visit: it collects into G, and says 'more'. -/
structure Vis (Inv : World → List Nat → Prop) (more : List Nat → Bool) (G B2 Y : Nat) : Prop where
  call : ∀ w L s (dep : Int), Inv w L → L.length ≤ 1000 → Calls Ybaf.prog 18 #[.int .u32 (s : Nat), .int .i64 dep, .pointer (some ⟨Y, 0, none⟩)] w fun e w' => e = .returned (.bool (more (L ++ [s]))) ∧ Inv w' (L ++ [s]) ∧ Fl (OwnG G B2 w) w w'
  shG : ∀ w L, Inv w L → w.shape? G = some (24, 1)

/-- A variable that holds a collecting closure. -/
structure Inv7 (G B2 Y f : Nat) (w : World) (L : List Nat) : Prop where
  col : Col w G B2 L
  y : w.cell? ⟨Y, 0, none⟩ = some (.func (.func f) #[] #[.pointer (some ⟨G, 0, none⟩)])
  ysh : w.shape? Y = some (31, 1)
  hB : B2 ≤ w.heap.size
structure Inv13 (G B2 Y M m : Nat) (w : World) (L : List Nat) : Prop where
  col : Col w G B2 L
  y : w.cell? ⟨Y, 0, none⟩ = some (.func (.func 13) #[] #[.pointer (some ⟨G, 0, none⟩), .pointer (some ⟨M, 0, none⟩)])
  ysh : w.shape? Y = some (31, 1)
  hB : B2 ≤ w.heap.size
  hm : w.cell? ⟨M, 0, none⟩ = some (.int .i64 m)
  msh : w.shape? M = some (3, 1)

theorem not_ownG {w : World} {G B2 b e n : Nat} (h : w.shape? b = some (e, n)) (he : e ≠ 30) (hb : b ≠ G) : ¬ OwnG G B2 w b := by
  rintro (h1 | ⟨_, m, h1⟩)
  · exact hb h1
  · rw [h] at h1; cases h1; exact he rfl

theorem vis7 (G B2 Y : Nat) (hG : G < B2) (hY : Y ≠ G) : Vis (Inv7 G B2 Y 7) (fun _ => true) G B2 Y := by
  refine ⟨fun w L s dep h hL => ?_, fun w L h => h.col.choose_spec.2.2.1⟩
  have hy := h.y
  have hn := not_ownG (G := G) (B2 := B2) h.ysh (by decide) hY
  have happ := app7 G B2 s L w h.col hL h.hB hG
  have hysh := h.ysh
  have hB := h.hB
  clear h
  go_enter Ybaf.func18, Ybaf.ntmps18
  go_wp2_with (go_at_call 7; refine happ.mono ?_; rintro e w' ⟨rfl, hcol, hfl⟩)
  go_ret
  exact ⟨rfl, ⟨hcol, hfl.cell hy hn, hfl.sh hysh hn, Nat.le_trans hB hfl.size⟩, hfl⟩
theorem vis12 (G B2 Y : Nat) (hG : G < B2) (hY : Y ≠ G) : Vis (Inv7 G B2 Y 12) (fun _ => true) G B2 Y := by
  refine ⟨fun w L s dep h hL => ?_, fun w L h => h.col.choose_spec.2.2.1⟩
  have hy := h.y
  have hn := not_ownG (G := G) (B2 := B2) h.ysh (by decide) hY
  have happ := app12 G B2 s L w h.col hL h.hB hG
  have hysh := h.ysh
  have hB := h.hB
  clear h
  go_enter Ybaf.func18, Ybaf.ntmps18
  go_wp2_with (go_at_call 12; refine happ.mono ?_; rintro e w' ⟨rfl, hcol, hfl⟩)
  go_ret
  exact ⟨rfl, ⟨hcol, hfl.cell hy hn, hfl.sh hysh hn, Nat.le_trans hB hfl.size⟩, hfl⟩
theorem vis13 (G B2 Y M m : Nat) (hG : G < B2) (hY : Y ≠ G) (hM : M ≠ G) (hMB : M < B2) : Vis (Inv13 G B2 Y M m) (fun K => decide (K.length < m)) G B2 Y := by
  refine ⟨fun w L s dep h hL => ?_, fun w L h => h.col.choose_spec.2.2.1⟩
  have hy := h.y
  have hn := not_ownG (G := G) (B2 := B2) h.ysh (by decide) hY
  have hn2 := not_ownG (G := G) (B2 := B2) h.msh (by decide) hM
  have happ := app13 G B2 s M m L w h.col hL h.hB hG h.hm hM hMB
  have hysh := h.ysh
  have hmsh := h.msh
  have hm := h.hm
  have hB := h.hB
  clear h
  go_enter Ybaf.func18, Ybaf.ntmps18
  go_wp2_with (go_at_call 13; refine happ.mono ?_; rintro e w' ⟨rfl, hcol, hfl⟩)
  go_ret
  exact ⟨congrArg (fun b => Ending.returned (Value.bool b)) (decide_eq_decide.2 (by simp)), ⟨hcol, hfl.cell hy hn, hfl.sh hysh hn, Nat.le_trans hB hfl.size, hfl.cell hm hn2, hfl.sh hmsh hn2⟩, hfl⟩

set_option maxRecDepth 100000 in
set_option maxHeartbeats 4000000 in
/-- walk: it visits in preorder, and stops where visit says so. -/
theorem walk_any (Inv : World → List Nat → Prop) (more : List Nat → Bool) (G B2 Y : Nat) (hV : Vis Inv more G B2 Y) (B T AX d cap : Nat) (pg fp : Option Nat) (ch fc : Nat → Option Nat) (t0 : BT) :
    ∀ (t : BT) (r : Nat) (dep : Int) (L : List Nat) (w : World), Mem w B T AX d cap pg ch fp fc t0 → IsV w ch r t → Inv w L → 0 ≤ dep → dep + t.slots.length ≤ 1000 → L.length + t.slots.length ≤ 1000 →
      Calls Ybaf.prog 17 #[.pointer (some ⟨T, 0, none⟩), .int .u32 r, .int .i64 dep, .func (.func 18) #[] #[.pointer (some ⟨Y, 0, none⟩)]] w fun e w' => e = .returned (.bool (pre more L t).2) ∧ Inv w' (pre more L t).1 ∧ Fl (OwnG G B2 w) w w'
  | .nil, r, dep, L, w, hM, hv, hI, hd0, hd1, hl => by
    obtain rfl : r = 0 := hv
    simp only [pre]
    go_enter Ybaf.func17, Ybaf.ntmps17
    go_wp2
    go_ret
    exact ⟨rfl, hI, Fl.refl _ _⟩
  | .node s l q, r, dep, L, w, hM, hv, hI, hd0, hd1, hl => by
    obtain ⟨rfl, hs0, hs1, c, hc, hlT, hqT⟩ := hv
    simp only [BT.slots, List.length_cons, List.length_append] at hd1 hl
    have hat := hM.atNode hs1 hc
    have hvis := hV.call w L r dep hI (by omega)
    have e3 : decide ((r : Int) = 0) = false := by simp; omega
    obtain ⟨R, hR⟩ : ∃ R, pre more L (.node r l q) = R := ⟨_, rfl⟩
    rw [hR]
    simp only [pre] at hR
    have kept : ∀ w', Fl (OwnG G B2 w) w w' → ∀ s', ∀ c', ch (s' / 2048) = some c' → ∀ side, side < 2 → w'.cell? (kid c' s' side) = w.cell? (kid c' s' side) := by
      intro w' hf s' c' hc' side _
      refine World.cell?_of_block (a := kid c' s' side) (hf.block c' (shape_lt (hM.nd.chunk _ c' hc')) (fun ho => freeG (hV.shG w L hI) c' ho _ _ (hM.nd.chunk _ c' hc') (by unfold Kind; omega)))
    cases hm : more (L ++ [r])
    · rw [hm] at hR hvis
      simp only [Bool.false_eq_true, if_false] at hR
      subst hR
      clear hm kept
      go_enter Ybaf.func17, Ybaf.ntmps17
      go_wp2_with (first
        | (go_at_call 9; refine hat.mono ?_; rintro e w' ⟨rfl, he⟩; obtain rfl := he.symm)
        | (go_at_call 18; refine hvis.mono ?_; rintro e w1 ⟨rfl, hI1, hf1⟩))
      go_ret
      exact ⟨rfl, hI1, hf1⟩
    · rw [hm] at hR hvis
      simp only [if_true] at hR
      obtain ⟨⟨P1, b1⟩, hp1⟩ : ∃ p1, pre more (L ++ [r]) l = p1 := ⟨_, rfl⟩
      rw [hp1] at hR
      have hp1l : P1.length ≤ L.length + 1 + l.slots.length := by have := pre_len more l (L ++ [r]); rw [hp1] at this; simpa using this
      clear hm
      replace hp1 : Hid _ := hp1
      replace hR : Hid _ := hR
      go_enter Ybaf.func17, Ybaf.ntmps17
      go_wp2_with (first
        | (go_at_call 9; refine hat.mono ?_; rintro e w' ⟨rfl, he⟩; obtain rfl := he.symm))
      refine hvis.mono ?_
      rintro e w1 ⟨rfl, hI1, hf1⟩
      have hM1 := hM.fl hf1 (freeG (hV.shG w L hI))
      have hl1 : IsT w1 ch (kid c r 0) l := hlT.kept (fun _ _ e => e) (kept w1 hf1) (kept w1 hf1 r c hc 0 (by omega))
      have hq1 : IsT w1 ch (kid c r 1) q := hqT.kept (fun _ _ e => e) (kept w1 hf1) (kept w1 hf1 r c hc 1 (by omega))
      obtain ⟨r0, hr0, hv0⟩ := hl1.val
      have ih0 := walk_any Inv more G B2 Y hV B T AX d cap pg fp ch fc t0 l r0 (dep + 1) (L ++ [r]) w1 hM1 hv0 hI1 (by omega) (by omega) (by simp; omega)
      rw [hp1.out] at ih0
      have hr0' : w1.cell? ⟨c, r % 2048 * 4, none⟩ = some (.int .u32 r0) := hr0
      simp only at ih0
      go_wp2_with fail
      refine (loadM c (r % 2048 * 4) r0 w1 hr0').mono ?_
      rintro e w' ⟨rfl, he⟩
      obtain rfl := he.symm
      go_wp2_with fail
      refine ih0.mono ?_
      rintro e w2 ⟨rfl, hI2, hf2⟩
      have hF2 : Fl (OwnG G B2 w) w w2 := hf1.ownG hf2
      have hM2 := hM1.fl hf2 (freeG (hV.shG w1 _ hI1))
      cases b1
      · simp only [Bool.false_eq_true, if_false] at hR
        obtain rfl := hR.out
        go_wp2_with fail
        go_ret
        exact ⟨rfl, hI2, hF2⟩
      · simp only [if_true] at hR
        have hq2 : IsT w2 ch (kid c r 1) q := hqT.kept (fun _ _ e => e) (kept w2 hF2) (kept w2 hF2 r c hc 1 (by omega))
        obtain ⟨r1, hr1, hv1⟩ := hq2.val
        have ih1 := walk_any Inv more G B2 Y hV B T AX d cap pg fp ch fc t0 q r1 (dep + 1) P1 w2 hM2 hv1 hI2 (by omega) (by omega) (by omega)
        rw [hR.out] at ih1
        go_wp2_with fail
        refine (loadM c (r % 2048 * 4 + 1) r1 w2 hr1).mono ?_
        rintro e w' ⟨rfl, he⟩
        obtain rfl := he.symm
        go_wp2_with fail
        refine ih1.mono ?_
        rintro e w3 ⟨rfl, hI3, hf3⟩
        go_wp2_with fail
        go_ret
        exact ⟨rfl, hI3, hF2.ownG hf3⟩
end Go.Proofs.YbulkbjwiFmt
