/-
  THE WALK OF addGlobal, over this seat's translation.
-/
import Derived.Test.YbulkbjzoFmtMaps
import Derived.Test.YbulkbjzoFmtIter
import Derived.Test.YbulkbjzoFmtErrorf
namespace Go.Proofs.YbulkbjzoFmt
open Go.RowKit Go.Maps Go.Sort

theorem keys_any (mb : Option Nat) (w : World) : Calls Ybaf.prog 9 #[.map mb] w fun e w' => e = .returned (.func (.func 14) #[] #[.pointer (some ⟨w.heap.size, 0, none⟩)]) ∧ w' = w.alloc (.cells #[.map mb] 25) :=
  callsIn_wide.1 (Ybaf.maps_Keys_9 mb w)

theorem sorted_any (b n : Nat) (p : Nat → Bool) (v : Nat → List UInt8) (w : World) (hown : MapIs w b n p v) (hn : n ≤ 4096) :
    Calls Ybaf.prog 8 #[.func (.func 14) #[] #[.pointer (some ⟨w.heap.size, 0, none⟩)]] (w.alloc (.cells #[.map (some b)] 25)) fun e w' => ∃ u : Value, e = .returned u ∧
      w'.ownsRow (w.heap.size + 1) 9 1 u (from_ p 0).length (((from_ p 0).map KL).map fun l => .string (BS l)) ∧ (u = .slice none 0 0 ↔ from_ p 0 = []) ∧ Below (w.heap.size + 1) (w.alloc (.cells #[.map (some b)] 25)) w' := by
  obtain ⟨D, h1, h2⟩ := hown
  have hsz := h1.size_le
  refine (callsIn_wide.1 (Ybaf.slices_Sorted_keys_8_9 b n D _ w h1 (by unfold maxLen; omega) (by omega))).mono ?_
  rintro e w' ⟨u, ss, rfl, hs, hrow, hnil, hb⟩
  have hso := h2.sorted (h1.tidy law9) hs
  have hlen : ss.length = (from_ p 0).length := by
    have := congrArg List.length hso
    simpa using this
  rw [World.size_alloc] at hrow hb
  rw [hso, hlen] at hrow
  refine ⟨u, rfl, hrow, ?_, hb⟩
  rw [hnil]
  constructor
  · intro e; subst e; exact List.length_eq_zero_iff.1 (by simpa using hlen.symm)
  · intro e; rw [e] at hlen; exact List.length_eq_zero_iff.1 (by simpa using hlen)

theorem BS_empty (l : List UInt8) : (BS l).toList.isEmpty = l.isEmpty := by
  rw [show (BS l).toList = l from by simp [BS, ByteArray.toList_eq]]
theorem grown_step {w w' w'' : World} {b : Nat} (h : w.grownBy w' (some b)) (h' : w'.mapTurned w'' b) : w.grownBy w'' (some b) := by
  have g := h'.grown
  have := h.size
  exact ⟨g.os.trans h.os, g.tape.trans h.tape, g.output.trans h.output, Nat.le_trans h.size g.size, fun k hk hne => (g.block k (by omega) hne).trans (h.block k hk hne)⟩
theorem grown_both {w w' w'' : World} {r : Option Nat} (h : w.grownBy w' r) (g : w'.grownBy w'' r) : w.grownBy w'' r := by
  have := h.size
  exact ⟨g.os.trans h.os, g.tape.trans h.tape, g.output.trans h.output, Nat.le_trans h.size g.size, fun k hk hne => (g.block k (by omega) hne).trans (h.block k hk hne)⟩
theorem grown_two {w w' : World} {r : Option Nat} (h : w.grownBy w' r) (o1 o2 : Obj) : w.grownBy ((w'.alloc o1).alloc o2).drew r := by
  have := h.size
  exact ⟨h.os, h.tape, h.output, by simp; omega, fun k hk hne => ((Below.heap_alloc (w'.alloc o1) o2 k (by simp; omega)).trans (Below.heap_alloc w' o1 k (by omega))).trans (h.block k hk hne)⟩
theorem MapIs.drew {w : World} {b n : Nat} {p : Nat → Bool} {v : Nat → List UInt8} (h : MapIs w b n p v) : MapIs w.drew b n p v := by
  obtain ⟨D, h1, h2⟩ := h
  exact ⟨D, h1.drew, h2⟩
theorem eq7 : ∀ k, k < 9 → ((BS (KL k)).toList == [115, 105, 122, 101]) = (k == 7) := by decide +kernel
theorem eq6 : ∀ k, k < 9 → ((BS (KL k)).toList == [112, 97, 116, 104]) = (k == 6) := by decide +kernel
theorem eq4 : ∀ k, k < 9 → ((BS (KL k)).toList == [108, 105, 110, 107, 112, 97, 116, 104]) = (k == 4) := by decide +kernel

set_option maxHeartbeats 1000000 in
theorem add_some (bg br ng nr : Nat) (pg pr : Nat → Bool) (vg vr : Nat → List UInt8) (w : World) (hg : MapIs w bg ng pg vg) (hr : MapIs w br nr pr vr) (hne : bg ≠ br) (hng : ng ≤ 2048) (hnr : nr ≤ 2048) (hvr : ∀ k, (vr k).length ≤ 4096) (L : List Nat) (HL : Hid (from_ pr 0 = L)) (hL : L ≠ [])
    (R : (Nat → Bool) × (Nat → List UInt8) × Bool) (HR : Hid (runK vr (L.drop 0) pg vg = R)) :
    Calls Ybaf.prog 7 #[.map (some bg), .map (some br)] w fun e w' => ∃ err, e = .returned err ∧
      ((R.2.2 = false ∧ err = .nilIface) ∨ (R.2.2 = true ∧ ∃ a, err = .iface 51 (.pointer (some a)))) ∧
      MapIs w' bg 4096 R.1 R.2.1 ∧ w.grownBy w' (some bg) := by
  have hm : ∀ k ∈ L, k < 9 := by rw [← HL.out]; intro i hi; have := (List.mem_filter.1 hi).1; simp [List.mem_range'] at this; omega
  have hl9 : L.length ≤ 9 := by
    have := List.length_filter_le pr (List.range' 0 9)
    rw [← HL.out]
    simpa [from_] using this
  have hbg := hg.lt
  have hbr := hr.lt
  go_enter Ybaf.func7, Ybaf.ntmps7
  go_wp2_with fail
  refine (keys_any _ _).mono ?_
  rintro e w1 ⟨rfl, rfl⟩
  go_wp2_with fail
  refine (sorted_any br nr pr vr w hr (by omega)).mono ?_
  rintro e w2 ⟨u, rfl, hrow, hnil, hb⟩
  rw [HL.out] at hrow hnil
  obtain ⟨hlen, h | ⟨g, cap, cur, rfl, hgb, hcur, hcap, hmax, hcs, htk⟩⟩ := hrow
  · exact absurd (hnil.1 h.1) hL
  have hsize := hb.size
  rw [World.size_alloc] at hsize
  have hglt : g < w2.heap.size := (Array.getElem?_eq_some_iff.1 hcur).1
  have hg2 : MapIs w2 bg ng pg vg := (hg.alloc _).below hb (by omega)
  have hr2 : MapIs w2 br nr pr vr := (hr.alloc _).below hb (by omega)
  have hgr : w.grownBy w2 (some bg) := by
    refine ⟨hb.os, hb.tape, hb.output, by omega, fun k hk _ => (hb.block k (by omega)).trans (Below.heap_alloc w _ k hk)⟩
  have hcell : ∀ (j : Nat) (hj : j < L.length), w2.cell? ⟨g, j, none⟩ = some (.string (BS (KL L[j]))) := by
    intro j hj
    have e1 : w2.cell? ⟨g, j, none⟩ = cur[j]? := by simp [World.cell?, hcur]
    have e2 : cur[j]? = (cur.toList.take (L.length * 1))[j]? := by rw [List.getElem?_take_of_lt (by omega)]; simp
    rw [e1, e2, htk]
    simp [hj]
  clear hnil hlen hcur htk hcs
  go_wp2_with fail
  go_loopw [12] (fun i wr => ∃ (j : Nat) (p : Nat → Bool) (v : Nat → List UInt8), j ≤ L.length ∧ i = .int .i64 j ∧ Hid (runK vr (L.drop j) p v = R) ∧ MapIs wr bg (ng + j) p v ∧ w2.grownBy wr (some bg))
    (fun i _ => L.length - (intOf i).toNat)
  case atStart => exact ⟨0, pg, vg, Nat.zero_le _, rfl, HR, hg2, ⟨rfl, rfl, rfl, Nat.le_refl _, fun _ _ _ => rfl⟩⟩
  case round =>
    obtain ⟨j, p, v, hj, rfl, hR, hmp, hgw⟩ := hrel
    have hsw := hgw.size
    by_cases hlt : j < L.length
    · have hk := hm L[j] (List.getElem_mem hlt)
      have hcj : wr.cell? ⟨g, j, none⟩ = some (.string (BS (KL L[j]))) := (World.cell?_of_block (a := ⟨g, j, none⟩) (hgw.block g hglt (by intro e; cases e; omega))).trans (hcell j hlt)
      have hdrop : Hid (L.drop j = L[j] :: L.drop (j + 1)) := List.drop_eq_getElem_cons hlt
      have hrr : MapIs wr br nr pr vr := hr2.kept hgw (by intro e; cases e; exact hne rfl)
      have hlook := hrr.look hk
      have q7 := eq7 _ hk
      have q6 := eq6 _ hk
      have q4 := eq4 _ hk
      have hpre := prefix_any _ hk
      have hvk := hvr L[j]
      clear hcell hr2 hg2 hg hr hvr hrr
      generalize L[j] = k at *
      cases hf : forb k
      · have z : (k == 0) = false ∧ (k == 4) = false ∧ (k == 6) = false ∧ (k == 7) = false := by simp [forb] at hf; simp [hf]
        rw [z.2.2.2] at q7; rw [z.2.2.1] at q6; rw [z.2.1] at q4; rw [z.1] at hpre
        clear z
        have hR1 : Hid (runK vr (L.drop (j + 1)) (stepP vr k p) (stepV vr k v) = R) := by
          have := hR.out
          rw [hdrop.out] at this
          simpa [runK, hf, Hid] using this
        have hempty := BS_empty (vr k)
        cases hv : (vr k).isEmpty
        · rw [hv] at hempty
          have hstep : Hid (setP p k true = stepP vr k p) := by simp [Hid, stepP, hv]
          clear hR hdrop hf hv
          go_wp2_with (first
            | (go_at_call 10; refine (hpre _).mono ?_; rintro e w' ⟨rfl, rfl⟩)
            | (at_mapUpdate; refine wpList_put _ rfl _ _ _ rfl bg (ng + j) p v k (vr k) rfl hmp (by omega) hk rfl rfl hvk ?_; intro w3 hmp3 hturn))
          go_roundw
          case rel => exact ⟨j + 1, stepP vr k p, stepV vr k v, by omega, by go_num, hR1, by rw [hstep.out] at hmp3; exact hmp3, grown_step hgw hturn⟩
          case measure => simp [intOf]; omega
        · rw [hv] at hempty
          have hstep : Hid (setP p k false = stepP vr k p) := by simp [Hid, stepP, hv]
          have hstep2 : Hid (setV v k [] = stepV vr k v) := by simp [Hid, stepV, List.isEmpty_iff.1 hv]
          clear hR hdrop hf hv
          go_wp2_with (first
            | (go_at_call 10; refine (hpre _).mono ?_; rintro e w' ⟨rfl, rfl⟩)
            | (at_delete; refine wpList_del _ rfl _ _ rfl bg (ng + j) p v k rfl hmp hk rfl ?_; intro w3 hmp3 hturn))
          go_roundw
          case rel => exact ⟨j + 1, stepP vr k p, stepV vr k v, by omega, by go_num, hR1, by rw [hstep.out, hstep2.out] at hmp3; exact hmp3.mono (by omega), grown_step hgw hturn⟩
          case measure => simp [intOf]; omega
      · have hR1 : Hid ((p, v, true) = R) := by
          have := hR.out
          rw [hdrop.out] at this
          simpa [runK, hf, Hid] using this
        clear hR hdrop
        have hk4 : k = 0 ∨ k = 4 ∨ k = 6 ∨ k = 7 := by simp [forb] at hf; omega
        clear hf
        rcases hk4 with h | h | h | h
        all_goals
          rw [show (k == 7) = _ from by rw [h]] at q7
          rw [show (k == 6) = _ from by rw [h]] at q6
          rw [show (k == 4) = _ from by rw [h]] at q4
          simp only [show (k == 0) = _ from by rw [h]] at hpre
          clear h
          go_wp2_with (first
            | (go_at_call 10; refine (hpre _).mono ?_; rintro e w' ⟨rfl, rfl⟩)
            | (go_at_call 11; refine (errorf_any _ (BS (KL k)) _ ?_).mono ?_; (simp [go_sem]); rintro e w' ⟨s, rfl, rfl⟩))
          go_ret
          have hR2 := hR1.out
          subst hR2
          exact ⟨_, rfl, .inr ⟨rfl, _, rfl⟩, MapIs.drew (((hmp.alloc _).alloc _).mono (by omega)), grown_two (grown_both hgr hgw) _ _⟩
    · go_wp2
      go_ret
      obtain rfl : j = L.length := by omega
      have hR' := hR.out
      rw [List.drop_length] at hR'
      simp only [runK] at hR'
      subst hR'
      exact ⟨_, rfl, .inl ⟨rfl, rfl⟩, hmp.mono (n' := 4096) (by omega), grown_both hgr hgw⟩


set_option maxHeartbeats 1000000 in
theorem add_none (bg br ng nr : Nat) (pg pr : Nat → Bool) (vg vr : Nat → List UInt8) (w : World) (hg : MapIs w bg ng pg vg) (hr : MapIs w br nr pr vr) (hng : ng ≤ 2048) (hnr : nr ≤ 2048) (HL : Hid (from_ pr 0 = [])) :
    Calls Ybaf.prog 7 #[.map (some bg), .map (some br)] w fun e w' => e = .returned .nilIface ∧ MapIs w' bg 4096 pg vg ∧ w.grownBy w' (some bg) := by
  have hbg := hg.lt
  go_enter Ybaf.func7, Ybaf.ntmps7
  go_wp2_with fail
  refine (keys_any _ _).mono ?_
  rintro e w1 ⟨rfl, rfl⟩
  go_wp2_with fail
  refine (sorted_any br nr pr vr w hr (by omega)).mono ?_
  rintro e w2 ⟨u, rfl, hrow, hnil, hb⟩
  obtain rfl := hnil.2 HL.out
  clear hrow hnil
  have hsize := hb.size
  rw [World.size_alloc] at hsize
  have hg2 : MapIs w2 bg ng pg vg := (hg.alloc _).below hb (by omega)
  have hgr : w.grownBy w2 (some bg) := by
    refine ⟨hb.os, hb.tape, hb.output, by omega, fun k hk _ => (hb.block k (by omega)).trans (Below.heap_alloc w _ k hk)⟩
  go_wp2_with fail
  refine wp_loop_rounds 1 ?_; rw [rounds_succ]
  go_wp2
  go_ret
  exact ⟨rfl, hg2.mono (by omega), hgr⟩

/-- addGlobal. -/
theorem add_any (bg br ng nr : Nat) (pg pr : Nat → Bool) (vg vr : Nat → List UInt8) (w : World) (hg : MapIs w bg ng pg vg) (hr : MapIs w br nr pr vr) (hne : bg ≠ br) (hng : ng ≤ 2048) (hnr : nr ≤ 2048) (hvr : ∀ k, (vr k).length ≤ 4096)
    (R : (Nat → Bool) × (Nat → List UInt8) × Bool) (HR : Hid (runK vr (from_ pr 0) pg vg = R)) :
    Calls Ybaf.prog 7 #[.map (some bg), .map (some br)] w fun e w' => ∃ err, e = .returned err ∧
      ((R.2.2 = false ∧ err = .nilIface) ∨ (R.2.2 = true ∧ ∃ a, err = .iface 51 (.pointer (some a)))) ∧
      MapIs w' bg 4096 R.1 R.2.1 ∧ w.grownBy w' (some bg) := by
  by_cases h : from_ pr 0 = []
  · refine (add_none bg br ng nr pg pr vg vr w hg hr hng hnr h).mono ?_
    rintro e w' ⟨rfl, h1, h2⟩
    have := HR.out
    rw [h] at this
    simp only [runK] at this
    subst this
    exact ⟨_, rfl, .inl ⟨rfl, rfl⟩, h1, h2⟩
  · exact add_some bg br ng nr pg pr vg vr w hg hr hne hng hnr hvr (from_ pr 0) rfl h R HR
end Go.Proofs.YbulkbjzoFmt
