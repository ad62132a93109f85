/-
  SEAT b3037aF: LawS3037BPreorder, walked.
-/
import Derived.Test.YbulkbjwiFmtSeen
namespace Go.Proofs.YbulkbjwiFmt
open Go.RowKit
attribute [local go_sem ↓] Go.wp_at_zero Go.wp_at_succ

theorem Own30.form {w : World} {BB : Nat} {v : Value} {L : List Nat} (h : Own30 w BB v L) : ∃ av cv, v = .slice av L.length cv := by
  rcases h.2 with ⟨rfl, e⟩ | ⟨g, cap, cur, rfl, _⟩
  · exact ⟨none, 0, by rw [e]⟩
  · exact ⟨_, _, rfl⟩
theorem Own30.form1 {w : World} {BB : Nat} {v : Value} {L : List Nat} {s : Nat} (h : Own30 w BB v (L ++ [s])) : ∃ av cv, v = .slice av (L.length + 1) cv := by
  obtain ⟨av, cv, e⟩ := h.form
  exact ⟨av, cv, by rw [e]; simp⟩
theorem Own30.formN {w : World} {BB : Nat} {v : Value} {L : List Nat} {n : Nat} (h : Own30 w BB v L) (hl : L.length = n) : ∃ av cv, v = .slice av n cv := by
  obtain ⟨av, cv, e⟩ := h.form
  exact ⟨av, cv, by rw [e, hl]⟩
/-- 'stack[:len(stack)-1]'. -/
theorem Own30.cut {w : World} {BB g k cap : Nat} {L : List Nat} {s : Nat} (h : Own30 w BB (.slice (some ⟨g, 0, none⟩) k cap) (L ++ [s])) : Own30 w BB (.slice (some ⟨g, 0, none⟩) L.length cap) L ∧ k = L.length + 1 ∧ w.cell? ⟨g, L.length, none⟩ = some (.int .u32 (s : Int)) := by
  obtain ⟨h1, ⟨e, _⟩ | ⟨g', cap', cur, e, h3, h4, h5, h6, h7, h8⟩⟩ := h
  · cases e
  cases e
  have hl : (L ++ [s]).length = L.length + 1 := by simp
  rw [hl] at h5 h8
  refine ⟨⟨by simp, .inr ⟨g, cap, cur, rfl, h3, h4, by omega, h6, h7, ?_⟩⟩, hl, ?_⟩
  · have := congrArg (List.take (L.length * 1)) h8
    rw [List.take_take] at this
    rw [show min (L.length * 1) ((L.length + 1) * 1) = L.length * 1 by omega] at this
    rw [this]
    simp
  · have e1 : w.cell? ⟨g, L.length, none⟩ = cur[L.length]? := by simp [World.cell?, h4]
    have e2 : cur[L.length]? = (cur.toList.take ((L.length + 1) * 1))[L.length]? := by rw [List.getElem?_take_of_lt (by omega)]; simp
    rw [e1, e2, h8]
    simp
theorem Own30.kept {w w' : World} {BB : Nat} {v : Value} {L : List Nat} {row : Option Nat} (h : Own30 w BB v L) (hg : w.grownBy w' row) (hne : v.ownBlock = none ∨ v.ownBlock ≠ row) : Own30 w' BB v L := World.ownsRow.kept h hg hne

theorem Own30.some_ {w : World} {BB : Nat} {v : Value} {L : List Nat} {s : Nat} (h : Own30 w BB v (L ++ [s])) : ∃ g cs, v = .slice (some ⟨g, 0, none⟩) (L.length + 1) cs := by
  rcases h.2 with ⟨_, e⟩ | ⟨g, cap, cur, rfl, _⟩
  · simp at e
  · exact ⟨g, cap, by simp⟩
theorem Own30.cap {w : World} {BB g k cs : Nat} {L : List Nat} {s : Nat} (h : Own30 w BB (.slice (some ⟨g, 0, none⟩) k cs) (L ++ [s])) : L.length + 1 ≤ cs := by
  rcases h.2 with ⟨e, _⟩ | ⟨g', cap, cur, e, _, _, h3, _⟩
  · cases e
  · cases e; simpa using h3

/-- The stack, top first: subtrees that are not empty. -/
def tops : List BT → List Nat
  | [] => []
  | .nil :: r => tops r
  | .node s _ _ :: r => tops r ++ [s]
/-- What the stack still holds, in the order in which it comes. -/
def rest : List BT → List Nat
  | [] => []
  | u :: r => u.slots ++ rest r
theorem tops_le : ∀ ts : List BT, (tops ts).length ≤ (rest ts).length
  | [] => Nat.le_refl _
  | .nil :: r => by simp only [tops, rest, BT.slots, List.nil_append]; exact tops_le r
  | .node s l q :: r => by have := tops_le r; simp [tops, rest, BT.slots]; omega
def Full (w : World) (ch : Nat → Option Nat) : List BT → Prop
  | [] => True
  | u :: r => (∃ s l q, u = .node s l q ∧ IsV w ch s u) ∧ Full w ch r

/-- The other row, and the world, behind a push. -/
theorem push_other {w0 w6 w7 : World} {BB : Nat} {v sv v2 : Value} {L : List Nat} {o : Obj} (hW : Own30 w6 BB v L) (hB : Below BB w0 w6) (hBB : BB ≤ w6.heap.size) (hd : v.ownBlock ≠ sv.ownBlock) (hsv : ∀ k, sv.ownBlock = some k → BB ≤ k)
    (hg : (w6.alloc o).grownBy w7 sv.ownBlock) (hb : v2.ownBlock = sv.ownBlock ∨ v2.ownBlock = some (w6.heap.size + 1)) : Own30 w7 BB v L ∧ Below BB w0 w7 ∧ v.ownBlock ≠ v2.ownBlock := by
  refine ⟨Own30.kept (World.ownsRow.alloc hW o) hg (.inr hd), (hB.alloc hBB o).grown hg (by simp; omega) hsv, ?_⟩
  rcases hb with e | e
  · rw [e]; exact hd
  · rw [e]; intro q
    have := (World.ownsRow.lt hW _ q).2
    omega

set_option maxRecDepth 100000 in
set_option maxHeartbeats 4000000 in
theorem preorder_walk (a : Option Addr) (n xc : Nat) (dim base stride : Int) (w : World) (hn : n ≤ 300) (hx : Xs w a n) (d0 : 0 ≤ dim) (d1 : dim ≤ 255) (b0 : 0 ≤ base) (b1 : base ≤ 255) (s0 : 0 ≤ stride) (s1 : stride ≤ 255) :
    Calls Ybaf.prog 3 #[.slice a n xc, .int .u8 dim, .int .u8 base, .int .u8 stride] w fun e w' => e = .returned (.bool true) ∧ Below w.heap.size w w' := by
  have hmf : ∀ (fn : Fn) (first cap : Array Value) (w : World), (Instr.makeFunc fn first cap).run Ybaf.prog w = .ok (.func fn first cap) w := fun _ _ _ _ => rfl
  have l1 : decide ((300 : Int) < (n : Int)) = false := by simp; omega
  obtain ⟨i0, hi, hz0, hz1, hz2⟩ := info30
  go_enter Ybaf.func3, Ybaf.ntmps3
  go_wp2_with fail
  refine (build_any a n xc dim base stride w hn hx d0 d1 b0 b1 s0 s1).mono ?_
  rintro e w1 ⟨T, AX, d, cap, pg, ch, fp, fc, t, SB, bb, ss, rfl, hM1, hS1, hperm, hbb, hss, hbs, hSB, hB1⟩
  have hlen : t.slots.length = n := by rw [hperm.length_eq]; simp
  have hSl := shape_lt hS1.sh
  obtain ⟨G, hG⟩ : ∃ G, G = w1.heap.size := ⟨_, rfl⟩
  obtain ⟨w2, hw2⟩ : ∃ w2, w2 = w1.alloc (.cells #[.slice none 0 0] 24) := ⟨_, rfl⟩
  have hf2 : Fr (fun _ => False) w1 w2 := by rw [hw2]; exact Fr.alloc _ _ _
  have hM2 := hM1.fr hf2 (Free.none _)
  have hS2 := hS1.fr hf2 (fun h => h)
  have hC2 : Col w2 G (G + 1) [] := by rw [hw2, hG]; exact col_new w1
  have hs2 : w2.heap.size = G + 1 := by rw [hw2, hG]; simp
  go_wp2_with fail
  rw [← hw2, ← hG]
  refine (all_any ⟨T, 0, none⟩ w2).mono ?_
  rintro e w3 ⟨rfl, hw3⟩
  rw [hs2]
  have hf3 : Fr (fun _ => False) w2 w3 := by rw [hw3]; exact Fr.alloc _ _ _
  have hM3 := hM2.fr hf3 (Free.none _)
  have hS3 := hS2.fr hf3 (fun h => h)
  have hC3 : Col w3 G (G + 1) [] := hC2.fl hf3.fl (fun h => h) (fun _ _ _ h => h)
  have hx3 : w3.cell? ⟨G + 1, 0, none⟩ = some (.pointer (some ⟨T, 0, none⟩)) := by rw [hw3, ← hs2]; exact cellNew _ _ _ _ _ rfl
  have hxs3 : w3.shape? (G + 1) = some (23, 1) := by rw [hw3, ← hs2, shapeNew]; rfl
  have hs3 : w3.heap.size = G + 2 := by rw [hw3]; simp [hs2]
  replace hw2 : Hid _ := hw2
  replace hG : Hid _ := hG
  replace hw3 : Hid _ := hw3
  replace hlen : Hid _ := hlen
  go_wp2_with fail
  refine (seq_any 7 #[.pointer (some ⟨G, 0, none⟩)] (Inv7 G (G + 1) w3.heap.size 7) (fun _ => true) G (G + 1) (G + 1) w3 (vis7 G (G + 1) w3.heap.size (by omega) (by omega)) (fun _ _ h => ⟨h.col, h.y, h.ysh, h.hB⟩)
    w.heap.size T AX d cap pg fp ch fc t hM3 (by have := hlen.out; omega) hx3 hxs3 (by omega) ⟨hC3.fl (Fr.alloc (fun _ => False) _ _).fl (fun h => h) (fun _ _ _ h => h), cellNew _ _ _ _ _ rfl, by rw [shapeNew]; rfl, by simp; omega⟩).mono ?_
  rintro e w4 ⟨rfl, hI4, hf4⟩
  rw [pre_all] at hI4
  simp only [List.nil_append] at hI4
  have hM4 := hM3.fl hf4 (freeG (by obtain ⟨v, _, _, h, _⟩ := hC3; exact h))
  have hC4 := hI4.col
  have hGo := hG.out
  have hs4 : G + 2 ≤ w4.heap.size := by have := hf4.size; omega
  have hB4 : Below w.heap.size w w4 := by
    refine ((hB1.trans (hf2.fl.below hB1.size (fun b h => h.elim))).trans (hf3.fl.below (by have := hB1.size; have := hf2.size; omega) (fun b h => h.elim))).trans (hf4.below (by have := hB1.size; have := hf2.size; have := hf3.size; omega) ?_)
    rintro b (rfl | ⟨h, _⟩)
    · have := hB1.size; omega
    · have := hB1.size; omega
  have hSc4 : ∀ k, k < n → w4.cell? ⟨SB, k, none⟩ = some (.int .u32 ((bb + k * ss : Nat) : Int)) := fun k hk => hf4.cell (hS3.cell k hk) (by rintro (h | ⟨h, _⟩) <;> omega)
  obtain ⟨av, cv, hc4, hcv, hrow⟩ := hC4.slice
  rw [hlen.out] at hc4 hcv hrow
  obtain ⟨r, hr4, hv4⟩ := hM4.root.val
  clear hI4 hM1 hS1 hB1 hf2 hM2 hC2 hf3 hM3 hC3 hx3 hxs3 hf4 hS2 hS3 hC4
  replace hGo : Hid _ := hGo
  obtain ⟨BB, hBB⟩ : ∃ BB, BB = w4.heap.size := ⟨_, rfl⟩
  replace hBB : Hid _ := hBB
  have hcase : t = .nil ∨ ∃ s l q, t = .node s l q := by cases t with | nil => exact .inl rfl | node s l q => exact .inr ⟨s, l, q, rfl⟩
  rcases hcase with ht | ⟨s, l, q, ht⟩
  case inl =>
    have hr0 : r = 0 := by rw [ht] at hv4; exact hv4
    subst hr0
    have hn0 : n = 0 := by have := hlen.out; rw [ht] at this; simpa [BT.slots] using this.symm
    subst hn0
    have hcl : ∀ b off w', b < BB → Below BB w4 w' → w'.cell? ⟨b, off, none⟩ = w4.cell? ⟨b, off, none⟩ := fun b off w' hb h => h.cell (p := ⟨b, off, none⟩) hb
    have hGB : G < BB := by have := hBB.out; omega
    have heq : ∀ w', w'.heap = w4.heap → w'.os = w4.os → w'.tape = w4.tape → w'.output = w4.output → Calls Ybaf.prog 10 #[.slice av 0 cv, .slice none 0 0] w' fun e w'' => e = .returned (.bool true) ∧ ∃ SE w6, w''.cell? ⟨G, 0, none⟩ = some (.slice av 0 cv) ∧ Below BB w4 w6 ∧ w6.cell? ⟨G, 0, none⟩ = some (.slice av 0 cv) ∧ (Instr.makeSlice 63 (.int .i64 0) (.int .i64 0)).run Ybaf.prog w'' = .ok (.slice (some ⟨SE, 0, none⟩) 0 0) w6 := by
      intro w' h1 h2 h3 h4
      refine (equal_zero av none cv 0 w').mono ?_
      rintro e w'' ⟨rfl, k, rfl⟩
      have hb : Below BB w4 (w'.drewN k) := ⟨by rw [← h2]; rfl, by rw [← h3]; rfl, by rw [← h4]; rfl, by rw [← h1]; exact Nat.le_refl _, fun b hb => by rw [← h1]; rfl⟩
      obtain ⟨w6, SE, k1, _, k3, _⟩ := seen_new 0 BB w4 (w'.drewN k) (by omega) (by have := hb.size; have := hBB.out; omega) hb
      exact ⟨rfl, SE, w6, (hcl G 0 _ hGB hb).trans hc4, k3, (hcl G 0 _ hGB k3).trans hc4, k1⟩
    clear hrow hcl
    go_wp2_with (go_at_call 8; refine (loadM T 1 0 w4 hr4).mono ?_; rintro e w' ⟨rfl, he⟩; obtain rfl := he.symm)
    refine wp_loop_rounds 1 ?_; rw [rounds_succ]
    go_wp2_with (go_at_call 10; refine Calls.mono (heq _ ?_ ?_ ?_ ?_) ?_; rfl; rfl; rfl; rfl; rintro e w5 ⟨rfl, SE, w6, hc5, hB6, hc6, mk6⟩)
    refine wp_loop_rounds 1 ?_; rw [rounds_succ]
    go_wp2_with fail
    go_ret
    exact ⟨rfl, hB4.trans (hB6.mono (by have := hB4.size; have := hBB.out; omega))⟩
  case inr =>
    have hrs : r = s ∧ 0 < s := by rw [ht] at hv4; exact ⟨hv4.1, hv4.2.1⟩
    obtain ⟨rfl, hs0'⟩ := hrs
    have rne : ((r : Nat) : Int) ≠ 0 := by omega
    have rne2 : (((r : Nat) : Int) == 0) = false := by simpa using rne
    go_wp2_with (first
      | (go_at_call 8; refine (loadM T 1 r _ hr4).mono ?_; rintro e w' ⟨rfl, he⟩; obtain rfl := he.symm)
      | (at_builtin; refine push_wp _ rfl _ _ rfl BB _ [] rfl (World.ownsRow_nil _ _ _ _) ⟨w4.heap.size, 0, none⟩ 1 r rfl (cellNew _ _ _ _ _ rfl) (by simp) (by have := hBB.out; simp; omega) ?_))
    intro sv w5 hown5 hgr5 hnn5 _
    obtain ⟨asv, csv, rfl⟩ : ∃ av cv, sv = .slice av 1 cv := hown5.form
    have hb5 : Below BB w4 w5 := ((Below.refl BB w4).alloc (by have := hBB.out; omega) _).grown hgr5 (by have := hBB.out; simp; omega) (by intro k hk; simp [Value.ownBlock] at hk)
    obtain ⟨ts0, hts0⟩ : ∃ ts0 : List BT, ts0 = [t] := ⟨_, rfl⟩
    replace hown5 : Hid _ := hown5
    replace hts0 : Hid _ := hts0
    go_wp2_with fail
    have hown5 : Own30 w5 BB (Value.slice asv 1 csv) (tops ts0) := by rw [hts0.out, ht]; exact hown5.out
    have hrest : rest ts0 = t.slots := by rw [hts0.out]; simp [rest]
    have hfull : Full w4 ch ts0 := by rw [hts0.out]; exact ⟨⟨r, l, q, ht, hv4⟩, trivial⟩
    go_loopw [13, 14, 16] (fun wv sv st wr => ∃ (W : List Nat) (ts : List BT), st = .int .i64 (W.length : Int) ∧ Own30 wr BB wv W ∧ Own30 wr BB sv (tops ts) ∧ (wv.ownBlock = none ∨ wv.ownBlock ≠ sv.ownBlock) ∧ W ++ rest ts = t.slots ∧ Full w4 ch ts ∧ Below BB w4 wr)
      (fun _ _ st _ => n + 1 - (intOf st).toNat)
    case atStart => exact ⟨[], ts0, rfl, World.ownsRow_nil _ _ _ _, hown5, .inl rfl, by simpa using hrest, hfull, hb5⟩
    case round =>
      clear hown5 hrest hfull hb5
      obtain ⟨W, ts, rfl, hW, hS, hne, hsum, hfull, hB⟩ := hrel
      cases ts with
      | nil =>
        have hWt : W = t.slots := by simpa [rest] using hsum
        subst hWt
        obtain ⟨avw, cvw, rfl⟩ := hW.formN hlen.out
        obtain ⟨avs, cvs, rfl⟩ := hS.formN (n := 0) rfl
        have hcl : ∀ b off w', b < BB → Below BB w4 w' → w'.cell? ⟨b, off, none⟩ = w4.cell? ⟨b, off, none⟩ := fun b off w' hb h => h.cell (p := ⟨b, off, none⟩) hb
        have hGB : G < BB := by have := hBB.out; omega
        have hcr : wr.cell? ⟨G, 0, none⟩ = some (.slice av n cv) := (hcl G 0 wr hGB hB).trans hc4
        have hn1 : 0 < n := by have := hlen.out; rw [ht] at this; simp [BT.slots] at this; omega
        obtain ⟨gg, hav, hg1, hg2, hgc⟩ := hrow hn1
        have hggB : gg < BB := by have := hBB.out; omega
        obtain ⟨gw, hwv, hgw⟩ := hW.row hlen.out hn1
        subst hav hwv
        have heq : ∀ w', w'.heap = wr.heap → w'.os = wr.os → w'.tape = wr.tape → w'.output = wr.output → Calls Ybaf.prog 10 #[.slice (some ⟨gg, 0, none⟩) n cv, .slice (some ⟨gw, 0, none⟩) n cvw] w' fun e w'' => e = .returned (.bool true) ∧ ∃ SE w6, Below BB w4 w'' ∧ w''.cell? ⟨G, 0, none⟩ = some (.slice (some ⟨gg, 0, none⟩) n cv) ∧ BB ≤ SE ∧ Below BB w4 w6 ∧ Hid (Seen w6 SE n (fun _ => false)) ∧ w6.cell? ⟨G, 0, none⟩ = some (.slice (some ⟨gg, 0, none⟩) n cv) ∧ (Instr.makeSlice 63 (.int .i64 n) (.int .i64 n)).run Ybaf.prog w'' = .ok (.slice (some ⟨SE, 0, none⟩) n n) w6 := by
          intro w' h1 h2 h3 h4
          have hcell : ∀ b off, w'.cell? ⟨b, off, none⟩ = wr.cell? ⟨b, off, none⟩ := fun b off => World.cell?_of_block (a := ⟨b, off, none⟩) (by rw [h1])
          refine (equal_row gg gw n cv cvw (fun j => t.slots.getD j 0) w' (by omega) (fun j hj => ?_) (fun j hj => ?_)).mono ?_
          · rw [hcell, hcl gg j wr hggB hB, hgc j hj]
          · rw [hcell, hgw j hj]
          · rintro e w'' ⟨rfl, k, rfl⟩
            have hb : Below BB w4 (w'.drewN k) := ⟨by rw [← hB.os, ← h2]; rfl, by rw [← hB.tape, ← h3]; rfl, by rw [← hB.output, ← h4]; rfl, by have := hB.size; rw [← h1] at this; exact this, fun b hb => by rw [← hB.block b hb, ← h1]; rfl⟩
            obtain ⟨w6, SE, k1, k2, k3, k4⟩ := seen_new n BB w4 (w'.drewN k) (by omega) (by have := hb.size; have := hBB.out; omega) hb
            exact ⟨rfl, SE, w6, hb, (hcl G 0 _ hGB hb).trans hc4, k2, k3, k4, (hcl G 0 _ hGB k3).trans hc4, k1⟩
        replace hW : Hid _ := hW
        replace hS : Hid _ := hS
        replace hperm : Hid _ := hperm
        clear hrow
        go_wp2_with (go_at_call 10; refine Calls.mono (heq _ ?_ ?_ ?_ ?_) ?_; rfl; rfl; rfl; rfl; rintro e w5 ⟨rfl, SE, w6, hB5, hc5, hSE, hB6, hSn, hc6, mk6⟩)
        clear hB5 hc5 mk6 heq
        go_loopw [118] (fun i wr => ∃ j : Nat, j ≤ n ∧ i = .int .i64 j ∧ Below BB w4 wr ∧ Hid (Seen wr SE n (met t.slots bb ss j))) (fun i _ => n - (intOf i).toNat)
        case atStart => exact ⟨0, by omega, rfl, hB6, hSn.out.same (fun k _ => (met_zero _ _ _ k).symm)⟩
        case round =>
          obtain ⟨j, hj, rfl, hBj, hSj⟩ := hrel
          by_cases hlt : j < n
          · obtain ⟨i0, hi0, hsl⟩ := slot_at (j := j) hperm.out (by have := hlen.out; omega)
            have hcg := (hcl gg j _ hggB hBj).trans (hgc j hlt)
            have hSBB : SB < BB := by have := hBB.out; have := hGo.out; omega
            have hidx : ∀ w', Below BB w4 w' → Calls Ybaf.prog 11 #[.slice (some ⟨SB, 0, none⟩) n n, .int .u32 ((bb + i0 * ss : Nat) : Int)] w' fun e w'' => e = .returned (.int .i64 (i0 : Int)) ∧ w'' = w' :=
              fun w' hw' => index_any SB n i0 (fun k => bb + k * ss) w' (by omega) hi0 (fun k _ e => Nat.eq_of_mul_eq_mul_right hss (by simpa using e)) (fun k hk => (hcl SB k _ hSBB hw').trans (hSc4 k hk))
            rw [hsl] at hcg
            have hmk : met t.slots bb ss j i0 = false := met_not hM4.nodup (by have := hlen.out; omega) hsl
            have hs1 := hSj.out.cell i0 hi0
            rw [hmk] at hs1
            have hs2 := hSj.out.froz i0 hi0
            have hj1 : (j : Int) < (n : Int) := by omega
            have hi1 : (i0 : Int) < (n : Int) := by omega
            have hi2 : decide ((i0 : Int) < 0) = false := by simp
            generalize hsg : bb + i0 * ss = sl at *
            replace hsg : Hid _ := hsg
            replace hsl : Hid _ := hsl
            replace hmk : Hid _ := hmk
            clear hcl hgc hSc4 hgw ht
            go_wp2_with (go_at_call 11; refine (hidx _ ?_).mono ?_; exact hBj; rintro e w' ⟨rfl, he⟩; obtain rfl := he.symm)
            exact ⟨⟨j + 1, by omega, by go_num, hBj.setCell hSE _, (hSj.out.set hi0).same (fun k _ => (met_step (by have := hlen.out; omega) hss (hsl.out.trans hsg.out.symm) k).symm)⟩, by simp [intOf]; omega⟩
          · have hj2 : ¬ ((j : Int) < (n : Int)) := by omega
            go_wp2_with fail
            go_ret
            exact ⟨rfl, hB4.trans (hBj.mono (by have := hB4.size; have := hBB.out; omega))⟩
      | cons u rs =>
        obtain ⟨⟨s, l, q, rfl, hu⟩, hfullr⟩ := hfull
        obtain ⟨_, hs0, hs1, c, hc, hlT, hqT⟩ := hu
        obtain ⟨aw, cw, rfl⟩ := hW.form
        obtain ⟨g, cs, rfl⟩ := hS.some_
        obtain ⟨hcut, hk, hcg⟩ := Own30.cut hS
        have hglt : g < wr.heap.size := World.block_lt_of_cell? _ _ hcg
        have hlens : W.length + 1 + l.slots.length + q.slots.length + (rest rs).length = n := by
          have := congrArg List.length hsum
          rw [hlen.out] at this
          simp [rest, BT.slots] at this
          omega
        have hcs : (tops rs).length + 1 ≤ cs := hS.cap
        generalize hK : (tops rs).length = K at *
        have c1 : decide ((n : Int) < (W.length : Int)) = false := by simp; omega
        have c2 : (K : Int) ≤ (cs : Int) := by omega
        have hBs := hB.size
        simp only [tops] at hS
        replace hS : Hid _ := hS
        replace hK : Hid _ := hK
        replace hsum : Hid _ := hsum
        have hWl : W.length ≤ 1000 := by omega
        have hK1 : ((K : Int) + 1 - 1) = (K : Int) := by omega
        have hK2 : (((K + 1 : Nat) : Int) - 1) = (K : Int) := by omega
        have hK3 : (((K + 1 : Nat) : Int) - 1).toNat = K := by omega
        have hKn : K + 1 ≤ 1000 := by have := tops_le rs; have := hK.out; omega
        have hBBs : BB ≤ (wr.alloc (.cells #[.int .u32 (s : Int)] 30)).heap.size := by have := hBB.out; simp; omega
        replace hW : Hid _ := hW
        replace hcut : Hid _ := hcut
        go_wp2_with (at_builtin; refine push_wp _ rfl _ _ rfl BB _ W rfl (World.ownsRow.alloc hW.out _) ⟨wr.heap.size, 0, none⟩ 1 s rfl (cellNew _ _ _ _ _ rfl) hWl hBBs ?_)
        intro v1 w6 hW6 hgr6 hnn6 hbl6
        have hrow6 : some g ≠ (Value.slice aw W.length cw).ownBlock := by
          rcases hne with e | e
          · rw [e]; simp
          · exact fun q => e q.symm
        have hS6 : Own30 w6 BB (.slice (some ⟨g, 0, none⟩) K cs) (tops rs) := by
          have := Own30.kept (World.ownsRow.alloc hcut.out (.cells #[.int .u32 (s : Int)] 30)) hgr6 (.inr hrow6)
          exact this
        have hB6 : Below BB w4 w6 := (hB.alloc (by have := hBB.out; omega) _).grown hgr6 (by have := hBB.out; simp; omega) (by intro k hk; exact (World.ownsRow.lt hW.out k hk).1)
        have hM6 : Mem w6 w.heap.size T AX d cap pg ch fp fc t := hM4.fl (own := fun b => BB ≤ b) ⟨hB6.os, hB6.tape, hB6.output, hB6.size, fun b _ hn => hB6.block b (by omega)⟩ (by intro b hb e m h; have := shape_lt h; have := hBB.out; omega)
        have hd6 : v1.ownBlock ≠ some g := by
          rcases hbl6 with e | e
          · rw [e]; exact fun q => hrow6 q.symm
          · rw [e]; intro q; have := Option.some.inj q; omega
        obtain ⟨r1, hr1, hv1⟩ := hqT.val
        obtain ⟨r0, hr0, hv0⟩ := hlT.val
        have hcl : c < BB := by have := shape_lt (hM4.nd.chunk _ c hc); have := hBB.out; omega
        have hr1' : w6.cell? ⟨c, s % 2048 * 4 + 1, none⟩ = some (.int .u32 (r1 : Int)) := (hB6.cell (p := ⟨c, s % 2048 * 4 + 1, none⟩) hcl).trans hr1
        have hat := hM6.atNode hs1 hc
        obtain ⟨av1, cv1, rfl⟩ := hW6.form1
        replace hW6 : Hid _ := hW6
        replace hS6 : Hid _ := hS6
        have hr0' : w6.cell? ⟨c, s % 2048 * 4, none⟩ = some (.int .u32 (r0 : Int)) := (hB6.cell (p := ⟨c, s % 2048 * 4, none⟩) hcl).trans hr0
        have hKl : (tops rs).length ≤ 1000 := by have := hK.out; omega
        have hBB6 : BB ≤ (w6.alloc (.cells #[.int .u32 (r1 : Int)] 30)).heap.size := by have := hBB.out; have := hB6.size; simp; omega
        have hqc : q = .nil ∨ ∃ s' l' q', q = .node s' l' q' := by cases q with | nil => exact .inl rfl | node s' l' q' => exact .inr ⟨s', l', q', rfl⟩
        rcases hqc with hq0 | ⟨s', l', q', hq0⟩
        case' inl =>
          have hz1 : r1 = 0 := by rw [hq0] at hv1; exact hv1
          subst hz1
          go_wp2_with (first
            | (go_at_call 9; refine hat.mono ?_; rintro e w' ⟨rfl, he⟩; obtain rfl := he.symm)
            | (go_at_call 8; with_reducible refine (loadM c (s % 2048 * 4 + 1) 0 _ hr1').mono ?_; rintro e w' ⟨rfl, he⟩; obtain rfl := he.symm))
          obtain ⟨tsq, htsq⟩ : ∃ tsq : List BT, tsq = rs := ⟨_, rfl⟩
          have hW7 := hW6
          have hS7 : Hid (Own30 w6 BB (.slice (some ⟨g, 0, none⟩) K cs) (tops tsq)) := by rw [htsq]; exact hS6
          have hB7 := hB6
          have hd7 : (Value.slice av1 (W.length + 1) cv1).ownBlock ≠ (Value.slice (some ⟨g, 0, none⟩) K cs).ownBlock := hd6
          have hr7 := hr0'
          have hfull7 : Full w4 ch tsq := by rw [htsq]; exact hfullr
          have hsum7 : W ++ [s] ++ l.slots ++ rest tsq = t.slots := by rw [htsq, ← hsum.out, hq0]; simp [rest, BT.slots]
        case' inr =>
          have hz1 : r1 = s' ∧ 0 < s' := by rw [hq0] at hv1; exact ⟨hv1.1, hv1.2.1⟩
          obtain ⟨rfl, hz2⟩ := hz1
          have hz3 : ((r1 : Nat) : Int) ≠ 0 := by omega
          have hz4 : (((r1 : Nat) : Int) == 0) = false := by simpa using hz3
          go_wp2_with (first
            | (go_at_call 9; refine hat.mono ?_; rintro e w' ⟨rfl, he⟩; obtain rfl := he.symm)
            | (go_at_call 8; with_reducible refine (loadM c (s % 2048 * 4 + 1) r1 _ hr1').mono ?_; rintro e w' ⟨rfl, he⟩; obtain rfl := he.symm)
            | (at_builtin; refine push_wp _ rfl _ _ rfl BB _ (tops rs) rfl (World.ownsRow.alloc hS6.out _) ⟨w6.heap.size, 0, none⟩ 1 r1 rfl (cellNew _ _ _ _ _ rfl) hKl hBB6 ?_))
        case' inr =>
          intro v7 w7 hS7a hgr7 hnn7 hbl7
          obtain ⟨hW7, hB7, hd7⟩ := push_other (sv := .slice (some ⟨g, 0, none⟩) K cs) hW6.out hB6 (by have := hBB.out; have := hB6.size; omega) hd6 (fun k hk => (World.ownsRow.lt hS6.out k hk).1) hgr7 hbl7
          obtain ⟨av7, cv7, rfl⟩ := hS7a.form1
          obtain ⟨tsq, htsq⟩ : ∃ tsq : List BT, tsq = q :: rs := ⟨_, rfl⟩
          have hS7 : Own30 w7 BB (.slice av7 ((tops rs).length + 1) cv7) (tops tsq) := by rw [htsq, hq0]; exact hS7a
          clear hS7a
          replace hS7 : Hid _ := hS7
          replace hW7 : Hid _ := hW7
          have hr7 : w7.cell? ⟨c, s % 2048 * 4, none⟩ = some (.int .u32 (r0 : Int)) := (hB7.cell (p := ⟨c, s % 2048 * 4, none⟩) hcl).trans hr0
          have hfull7 : Full w4 ch tsq := by rw [htsq]; exact ⟨⟨r1, l', q', hq0, hv1⟩, hfullr⟩
          have hsum7 : W ++ [s] ++ l.slots ++ rest tsq = t.slots := by rw [htsq, ← hsum.out]; simp [rest, BT.slots]
        all_goals clear hr1' hr0' htsq
        all_goals
          have hl7 : W.length + 1 + l.slots.length + (rest tsq).length = n := by
            have := congrArg List.length hsum7
            rw [hlen.out] at this
            simp at this; omega
          have hT7 : (tops tsq).length ≤ 1000 := by have := tops_le tsq; omega
          replace hsum7 : Hid _ := hsum7
          have hlc : l = .nil ∨ ∃ s' l' q', l = .node s' l' q' := by cases l with | nil => exact .inl rfl | node s' l' q' => exact .inr ⟨s', l', q', rfl⟩
          rcases hlc with hl0 | ⟨s2, l2, q2, hl0⟩
          · have hz1 : r0 = 0 := by rw [hl0] at hv0; exact hv0
            subst hz1
            go_wp2_with (go_at_call 8; refine (loadM c (s % 2048 * 4) 0 _ hr7).mono ?_; rintro e w' ⟨rfl, he⟩; obtain rfl := he.symm)
            go_roundw
            case rel => exact ⟨W ++ [s], tsq, by simp, hW7.out, hS7.out, .inr hd7, by have := hsum7.out; rw [hl0] at this; simpa [BT.slots] using this, hfull7, hB7⟩
            case measure => simp [intOf]; omega
          · have hz1 : r0 = s2 ∧ 0 < s2 := by rw [hl0] at hv0; exact ⟨hv0.1, hv0.2.1⟩
            obtain ⟨rfl, hy2⟩ := hz1
            have hy3 : ((r0 : Nat) : Int) ≠ 0 := by omega
            have hy4 : (((r0 : Nat) : Int) == 0) = false := by simpa using hy3
            go_wp2_with (first
              | (go_at_call 8; refine (loadM c (s % 2048 * 4) r0 _ hr7).mono ?_; rintro e w' ⟨rfl, he⟩; obtain rfl := he.symm)
              | (at_builtin; refine push_wp _ rfl _ _ rfl BB _ (tops tsq) rfl (World.ownsRow.alloc hS7.out _) ⟨_, 0, none⟩ 1 r0 rfl (cellNew _ _ _ _ _ rfl) hT7 (by have := hBB.out; have := hB7.size; simp; omega) ?_))
            intro v8 w8 hS8 hgr8 hnn8 hbl8
            obtain ⟨hW8, hB8, hd8⟩ := push_other hW7.out hB7 (by have := hBB.out; have := hB7.size; omega) hd7 (fun k hk => (World.ownsRow.lt hS7.out k hk).1) hgr8 hbl8
            obtain ⟨av8, cv8, rfl⟩ := hS8.form1
            replace hS8 : Hid _ := hS8
            replace hW8 : Hid _ := hW8
            go_wp2_with fail
            go_roundw
            case rel => exact ⟨W ++ [s], l :: tsq, by simp, hW8.out, by rw [hl0]; exact hS8.out, .inr hd8, by have := hsum7.out; simpa [rest] using this, ⟨⟨r0, l2, q2, hl0, hv0⟩, hfull7⟩, hB8⟩
            case measure => simp [intOf]; omega
end Go.Proofs.YbulkbjwiFmt
