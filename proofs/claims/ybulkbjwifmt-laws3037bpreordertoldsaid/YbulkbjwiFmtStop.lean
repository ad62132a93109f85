/-
  SEAT b3037aF: LawS3037BStop, walked.
-/
import Derived.Test.YbulkbjwiFmtEqual
namespace Go.Proofs.YbulkbjwiFmt
open Go.RowKit
attribute [local go_sem ↓] Go.wp_at_zero Go.wp_at_succ

/-- What a variable that collects holds: a slice of just these slots. -/
theorem Col.slice {w : World} {G B2 : Nat} {L : List Nat} (h : Col w G B2 L) : ∃ av cv, w.cell? ⟨G, 0, none⟩ = some (.slice av L.length cv) ∧ L.length ≤ cv ∧ (0 < L.length → ∃ g, av = some ⟨g, 0, none⟩ ∧ B2 ≤ g ∧ g < w.heap.size ∧ ∀ j, j < L.length → w.cell? ⟨g, j, none⟩ = some (.int .u32 ((L.getD j 0 : Nat) : Int))) := by
  obtain ⟨v, hc, _, _, hown⟩ := h
  by_cases hv : v = .slice none 0 0
  · subst hv
    have hl : L.length = 0 := by
      rcases hown.2 with ⟨_, h⟩ | ⟨g, cap, cur, e, _⟩
      · exact h
      · cases e
    refine ⟨none, 0, by rw [hl]; exact hc, by omega, fun h => by omega⟩
  · obtain ⟨g, cap, rfl, hg, hcap, hsh, hcl, _⟩ := owns_cells hown hv
    refine ⟨_, cap, hc, hcap, fun _ => ⟨g, rfl, hg, shape_lt hsh, fun j hj => ?_⟩⟩
    rw [hcl j (by omega)]
    simp [List.getD, hj]
theorem col_new (w : World) : Col (w.alloc (.cells #[.slice none 0 0] 24)) w.heap.size (w.heap.size + 1) [] :=
  ⟨_, cellNew _ _ _ _ _ rfl, frozNew _ _ _ _, by rw [shapeNew]; rfl, World.ownsRow_nil _ _ _ _⟩
theorem Col.fl {own : Nat → Prop} {w w' : World} {G B2 : Nat} {L : List Nat} (h : Col w G B2 L) (hf : Fl own w w') (hG : ¬ own G) (hr : ∀ b, b < w.heap.size → B2 ≤ b → ¬ own b) : Col w' G B2 L := by
  obtain ⟨v, hc, hz, hsh, hown⟩ := h
  refine ⟨v, hf.cell hc hG, hf.froz hc hz hG, hf.sh hsh hG, ?_⟩
  obtain ⟨h1, h2 | ⟨g, cap, cur, e, h3, h4, h5⟩⟩ := hown
  · exact ⟨h1, .inl h2⟩
  · have hg : g < w.heap.size := (Array.getElem?_eq_some_iff.1 h4).1
    exact ⟨h1, .inr ⟨g, cap, cur, e, h3, (hf.block g hg (hr g hg h3)).trans h4, h5⟩⟩

set_option maxRecDepth 100000 in
set_option maxHeartbeats 4000000 in
theorem stop_walk (a : Option Addr) (n xc : Nat) (dim base stride K : Int) (w : World) (hn : n ≤ 300) (hx : Xs w a n) (d0 : 0 ≤ dim) (d1 : dim ≤ 255) (b0 : 0 ≤ base) (b1 : base ≤ 255) (s0 : 0 ≤ stride) (s1 : stride ≤ 255) (k0 : 0 ≤ K) (k1 : K ≤ 65535) :
    Calls Ybaf.prog 4 #[.slice a n xc, .int .u8 dim, .int .u8 base, .int .u8 stride, .int .u16 K] w fun e w' => e = .returned (.bool true) ∧ Below w.heap.size w w' := by
  have hmf : ∀ (fn : Fn) (first cap : Array Value) (w : World), (Instr.makeFunc fn first cap).run Ybaf.prog w = .ok (.func fn first cap) w := fun _ _ _ _ => rfl
  have l1 : decide ((300 : Int) < (n : Int)) = false := by simp; omega
  obtain ⟨m, hm⟩ : ∃ m : Nat, 1 + K % ((n : Int) + 1) = (m : Int) := ⟨(1 + K % ((n : Int) + 1)).toNat, by have := Int.emod_nonneg K (show ((n : Int) + 1) ≠ 0 by omega); omega⟩
  have hm' : 1 + K.tmod ((n : Int) + 1) = (m : Int) := by rw [Int.tmod_eq_emod_of_nonneg k0]; exact hm
  have hm0 : 0 < m := by have := Int.emod_nonneg K (show ((n : Int) + 1) ≠ 0 by omega); omega
  have hm1 : m ≤ 301 := by have := Int.emod_lt_of_pos K (show (0 : Int) < (n : Int) + 1 by omega); omega
  go_enter Ybaf.func4, Ybaf.ntmps4
  go_wp2_with fail
  refine (build_any a n xc dim base stride w hn hx d0 d1 b0 b1 s0 s1).mono ?_
  rintro e w1 ⟨T, AX, d, cap, pg, ch, fp, fc, t, SB, bb, ss, rfl, hM1, hS1, hperm, _, _, _, hSB, hB1⟩
  have hlen : t.slots.length = n := by rw [hperm.length_eq]; simp
  -- the first variable
  obtain ⟨G, hG⟩ : ∃ G, G = w1.heap.size := ⟨_, rfl⟩
  obtain ⟨w2, hw2⟩ : ∃ w2, w2 = w1.alloc (.cells #[.slice none 0 0] 24) := ⟨_, rfl⟩
  have hf2 : Fr (fun _ => False) w1 w2 := by rw [hw2]; exact Fr.alloc _ _ _
  have hM2 := hM1.fr hf2 (Free.none _)
  have hC2 : Col w2 G (G + 1) [] := by rw [hw2, hG]; exact col_new w1
  have hs2 : w2.heap.size = G + 1 := by rw [hw2, hG]; simp
  go_wp2_with fail
  rw [← hw2, ← hG]
  refine (all_any ⟨T, 0, none⟩ w2).mono ?_
  rintro e w3 ⟨rfl, hw3⟩
  rw [hs2]
  have hf3 : Fr (fun _ => False) w2 w3 := by rw [hw3]; exact Fr.alloc _ _ _
  have hM3 := hM2.fr hf3 (Free.none _)
  have hC3 : Col w3 G (G + 1) [] := hC2.fl hf3.fl (fun h => h) (fun _ _ _ h => h)
  have hx3 : w3.cell? ⟨G + 1, 0, none⟩ = some (.pointer (some ⟨T, 0, none⟩)) := by rw [hw3, ← hs2]; exact cellNew _ _ _ _ _ rfl
  have hxs3 : w3.shape? (G + 1) = some (23, 1) := by rw [hw3, ← hs2, shapeNew]; rfl
  have hs3 : w3.heap.size = G + 2 := by rw [hw3]; simp [hs2]
  replace hw2 : Hid _ := hw2
  replace hG : Hid _ := hG
  replace hw3 : Hid _ := hw3
  replace hlen : Hid _ := hlen
  go_wp2_with fail
  refine (seq_any 12 #[.pointer (some ⟨G, 0, none⟩)] (Inv7 G (G + 1) w3.heap.size 12) (fun _ => true) G (G + 1) (G + 1) w3 (vis12 G (G + 1) w3.heap.size (by omega) (by omega)) (fun _ _ h => ⟨h.col, h.y, h.ysh, h.hB⟩)
    w.heap.size T AX d cap pg fp ch fc t hM3 (by have := hlen.out; omega) hx3 hxs3 (by omega) ⟨hC3.fl (Fr.alloc (fun _ => False) _ _).fl (fun h => h) (fun _ _ _ h => h), cellNew _ _ _ _ _ rfl, by rw [shapeNew]; rfl, by simp; omega⟩).mono ?_
  rintro e w4 ⟨rfl, hI4, hf4⟩
  rw [pre_all] at hI4
  simp only [List.nil_append] at hI4
  have hM4 := hM3.fl hf4 (freeG (by obtain ⟨v, _, _, h, _⟩ := hC3; exact h))
  have hC4 := hI4.col
  have hs4 : G + 2 ≤ w4.heap.size := by have := hf4.size; omega
  have hB4 : Below w.heap.size w w4 := by
    refine ((hB1.trans (hf2.fl.below hB1.size (fun b h => h.elim))).trans (hf3.fl.below (by have := hB1.size; have := hf2.size; omega) (fun b h => h.elim))).trans (hf4.below (by have := hB1.size; have := hf2.size; have := hf3.size; omega) ?_)
    rintro b (rfl | ⟨h, _⟩)
    · have := hG.out; have := hB1.size; omega
    · have := hG.out; have := hB1.size; omega
  obtain ⟨av, cv, hc4, hcv, hrow⟩ := hC4.slice
  rw [hlen.out] at hc4 hcv hrow
  clear hI4 hM1 hS1 hB1 hf2 hM2 hC2 hf3 hM3 hC3 hx3 hxs3 hf4
  obtain ⟨w6, hw6⟩ : ∃ w6, w6 = (w4.alloc (.cells #[.int .i64 m] 3)).alloc (.cells #[.slice none 0 0] 24) := ⟨_, rfl⟩
  obtain ⟨M, hM⟩ : ∃ M, M = w4.heap.size := ⟨_, rfl⟩
  have hf6 : Fr (fun _ => False) w4 w6 := by rw [hw6]; exact (Fr.alloc _ _ _).trans (Fr.alloc _ _ _)
  have hM6 := hM4.fr hf6 (Free.none _)
  have hC6 : Col w6 (M + 1) (M + 1 + 1) [] := by rw [hw6, hM]; have := col_new (w4.alloc (.cells #[.int .i64 m] 3)); simpa using this
  have hs6 : w6.heap.size = M + 1 + 1 := by rw [hw6, hM]; simp
  have hm6 : w6.cell? ⟨M, 0, none⟩ = some (.int .i64 m) := by
    rw [hw6, hM]
    exact (World.cell?_of_block (a := ⟨w4.heap.size, 0, none⟩) (Below.heap_alloc _ _ _ (by simp))).trans (cellNew _ _ _ _ _ rfl)
  have hms6 : w6.shape? M = some (3, 1) := by
    rw [hw6, hM]
    exact (shape_of_block (Below.heap_alloc _ _ _ (by simp))).trans (by rw [shapeNew]; rfl)
  have hB6 : Below w.heap.size w w6 := hB4.trans (hf6.fl.below hB4.size (fun b h => h.elim))
  replace hw6 : Hid _ := hw6
  replace hM : Hid _ := hM
  have hwM : w.heap.size ≤ w4.heap.size := hB4.size
  clear hM4 hB4
  go_wp2_with fail
  rw [← hw6.out, ← hM.out]
  refine (all_any ⟨T, 0, none⟩ w6).mono ?_
  rintro e w7 ⟨rfl, hw7⟩
  rw [hs6]
  have hf7 : Fr (fun _ => False) w6 w7 := by rw [hw7]; exact Fr.alloc _ _ _
  have hM7 := hM6.fr hf7 (Free.none _)
  have hC7 : Col w7 (M + 1) (M + 1 + 1) [] := hC6.fl hf7.fl (fun h => h) (fun _ _ _ h => h)
  have hf47 : Fr (fun _ => False) w4 w7 := hf6.trans hf7
  have hx7 : w7.cell? ⟨M + 1 + 1, 0, none⟩ = some (.pointer (some ⟨T, 0, none⟩)) := by rw [hw7, ← hs6]; exact cellNew _ _ _ _ _ rfl
  have hxs7 : w7.shape? (M + 1 + 1) = some (23, 1) := by rw [hw7, ← hs6, shapeNew]; rfl
  have hs7 : w7.heap.size = M + 1 + 2 := by rw [hw7]; simp [hs6]
  have hm7 := hf7.cell hm6 (fun h => h)
  have hms7 := (hf7.shape M (shape_lt hms6)).trans hms6
  have hB7 : Below w.heap.size w w7 := hB6.trans (hf7.fl.below hB6.size (fun b h => h.elim))
  replace hw7 : Hid _ := hw7
  clear hM6 hC6 hm6 hms6 hB6 hf7 hf6
  go_wp2_with fail
  refine (seq_any 13 #[.pointer (some ⟨M + 1, 0, none⟩), .pointer (some ⟨M, 0, none⟩)] (Inv13 (M + 1) (M + 1 + 1) w7.heap.size M m) (fun K => decide (K.length < m)) (M + 1) (M + 1 + 1) (M + 1 + 1) w7 (vis13 (M + 1) (M + 1 + 1) w7.heap.size M m (by omega) (by omega) (by omega) (by omega)) (fun _ _ h => ⟨h.col, h.y, h.ysh, h.hB, h.hm, h.msh⟩)
    w.heap.size T AX d cap pg fp ch fc t hM7 (by have := hlen.out; omega) hx7 hxs7 (by omega) ⟨hC7.fl (Fr.alloc (fun _ => False) _ _).fl (fun h => h) (fun _ _ _ h => h), cellNew _ _ _ _ _ rfl, by rw [shapeNew]; rfl, by simp; omega, (Fr.alloc (fun _ => False) w7 _).cell hm7 (fun h => h), ((Fr.alloc (fun _ => False) w7 _).shape M (shape_lt hms7)).trans hms7⟩).mono ?_
  rintro e w8 ⟨rfl, hI8, hf8⟩
  rw [pre_stop m t [] (by simpa using hm0)] at hI8
  simp only [List.nil_append] at hI8
  have hm8 := hI8.hm
  obtain ⟨av2, cv2, hp8, hpv, hprow⟩ := hI8.col.slice
  have hMs := hM.out
  have hkeep : ∀ b, b < M → w8.heap[b]? = w4.heap[b]? := by
    intro b hb
    refine (hf8.block b (by omega) ?_).trans (hf47.block b (by omega) (fun h => h))
    rintro (h | ⟨h, _⟩) <;> omega
  have hc8 : w8.cell? ⟨G, 0, none⟩ = some (.slice av n cv) := (World.cell?_of_block (a := ⟨G, 0, none⟩) (hkeep G (by omega))).trans hc4
  have hrow8 : 0 < n → ∃ g, av = some ⟨g, 0, none⟩ ∧ G + 1 ≤ g ∧ g < w4.heap.size ∧ ∀ j, j < n → w8.cell? ⟨g, j, none⟩ = some (.int .u32 ((t.slots.getD j 0 : Nat) : Int)) := by
    intro h
    obtain ⟨g, h1, h2, h3, h4⟩ := hrow h
    exact ⟨g, h1, h2, h3, fun j hj => (World.cell?_of_block (a := ⟨g, j, none⟩) (hkeep g (by omega))).trans (h4 j hj)⟩
  have hB8 : Below w.heap.size w w8 := by
    refine hB7.trans (hf8.below hB7.size ?_)
    have := hB7.size
    have := hG.out
    rintro b (rfl | ⟨h, _⟩) <;> omega
  clear hI8 hrow hc4 hf47 hf8 hM7 hC7 hx7 hxs7 hm7 hms7 hB7 hkeep hMs hC4
  by_cases hnm : n < m
  · have c1 : decide ((n : Int) < (m : Int)) = true := by simp; omega
    have hexl : (t.slots.take m).length = n := by rw [List.length_take, hlen.out]; omega
    rw [hexl] at hp8 hpv hprow
    have heq : ∀ w', w'.heap = w8.heap → Calls Ybaf.prog 10 #[.slice av2 n cv2, .slice av n cv] w' fun e w'' => e = .returned (.bool true) ∧ ∃ k, w'' = w'.drewN k := by
      intro w' hw'
      have hcell : ∀ b off, w'.cell? ⟨b, off, none⟩ = w8.cell? ⟨b, off, none⟩ := fun b off => World.cell?_of_block (a := ⟨b, off, none⟩) (by rw [hw'])
      by_cases hz : n = 0
      · have := equal_zero av2 av cv2 cv w'
        rwa [← hz] at this
      · obtain ⟨g2, rfl, _, _, hg2⟩ := hprow (by omega)
        obtain ⟨g, rfl, _, _, hg⟩ := hrow8 (by omega)
        refine equal_row g2 g n cv2 cv (fun j => t.slots.getD j 0) w' (by omega) (fun j hj => ?_) (fun j hj => ?_)
        · rw [hcell, hg2 j hj]
          have : (t.slots.take m).getD j 0 = t.slots.getD j 0 := by simp only [List.getD]; rw [List.getElem?_take_of_lt (by omega)]
          rw [this]
        · rw [hcell, hg j (by omega)]
    have excv : ((n : Nat) : Int) ≤ (cv : Int) := by omega
    clear hrow8 hprow
    replace hexl : Hid _ := hexl
    go_wp2_with fail
    go_region_held3 (fun w' => w'.cell? ⟨G, 0, none⟩ = some (.slice av n cv) ∧ w'.cell? ⟨M + 1, 0, none⟩ = some (.slice av2 n cv2)) (simp [*])
      ((go_at_call 10; refine Calls.mono (heq _ ?_) ?_; rfl; rintro e w' ⟨rfl, k, rfl⟩))
    go_wp2_with fail
    go_ret
    exact ⟨rfl, ⟨hB8.os, hB8.tape, hB8.output, hB8.size, hB8.block⟩⟩
  · have c1 : decide ((n : Int) < (m : Int)) = false := by simp; omega
    have hexl : (t.slots.take m).length = m := by rw [List.length_take, hlen.out]; omega
    rw [hexl] at hp8 hpv hprow
    have heq : ∀ w', w'.heap = w8.heap → Calls Ybaf.prog 10 #[.slice av2 m cv2, .slice av m cv] w' fun e w'' => e = .returned (.bool true) ∧ ∃ k, w'' = w'.drewN k := by
      intro w' hw'
      have hcell : ∀ b off, w'.cell? ⟨b, off, none⟩ = w8.cell? ⟨b, off, none⟩ := fun b off => World.cell?_of_block (a := ⟨b, off, none⟩) (by rw [hw'])
      by_cases hz : m = 0
      · have := equal_zero av2 av cv2 cv w'
        rwa [← hz] at this
      · obtain ⟨g2, rfl, _, _, hg2⟩ := hprow (by omega)
        obtain ⟨g, rfl, _, _, hg⟩ := hrow8 (by omega)
        refine equal_row g2 g m cv2 cv (fun j => t.slots.getD j 0) w' (by omega) (fun j hj => ?_) (fun j hj => ?_)
        · rw [hcell, hg2 j hj]
          have : (t.slots.take m).getD j 0 = t.slots.getD j 0 := by simp only [List.getD]; rw [List.getElem?_take_of_lt (by omega)]
          rw [this]
        · rw [hcell, hg j (by omega)]
    have excv : ((m : Nat) : Int) ≤ (cv : Int) := by omega
    clear hrow8 hprow
    replace hexl : Hid _ := hexl
    go_wp2_with fail
    go_region_held3 (fun w' => w'.cell? ⟨G, 0, none⟩ = some (.slice av n cv) ∧ w'.cell? ⟨M + 1, 0, none⟩ = some (.slice av2 m cv2)) (simp [*])
      ((go_at_call 10; refine Calls.mono (heq _ ?_) ?_; rfl; rintro e w' ⟨rfl, k, rfl⟩))
    go_wp2_with fail
    go_ret
    exact ⟨rfl, ⟨hB8.os, hB8.tape, hB8.output, hB8.size, hB8.block⟩⟩
end Go.Proofs.YbulkbjwiFmt
