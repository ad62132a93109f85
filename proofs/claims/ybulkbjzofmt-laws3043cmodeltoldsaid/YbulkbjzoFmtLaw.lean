/-
  LawS3043CModel: THE WALK.
-/
import Derived.Test.YbulkbjzoFmtAdd
namespace Go.Proofs.YbulkbjzoFmt
open Go.RowKit Go.Maps

/-- The drawn records of a slice, in memory: where element i lies, its K and its V. -/
def RecsAt (w : World) (a : Option Addr) (len cap : Nat) (K V : Nat → Int) : Prop :=
  ∀ i, i < len → ∃ b off : Nat, (∀ W, (Instr.indexAt 22 (.slice a len cap) (.int .i64 (i : Int))).run Ybaf.prog W = .ok (.pointer (some ⟨b, off, none⟩)) W) ∧ b < w.heap.size ∧
    w.cell? ⟨b, off, none⟩ = some (.int .u8 (K i)) ∧ w.cell? ⟨b, off + 1, none⟩ = some (.int .u8 (V i)) ∧ 0 ≤ K i ∧ K i ≤ 255 ∧ 0 ≤ V i ∧ V i ≤ 255

theorem VL_len (k : Nat) : (VL k).length ≤ 4096 := by unfold VL; split <;> decide

theorem key_int (x : Int) (k : Nat) (h : x = k) (hk : k < 9) (w : World) : Calls Ybaf.prog 5 #[.int .i64 x] w fun e w' => e = .returned (.string (BS (KL k))) ∧ w' = w := by
  subst h; exact key_any k hk w

theorem arr_new (w : World) : Arr ((((w.alloc (.cells #[.bool false, .bool false, .bool false, .bool false, .bool false, .bool false, .bool false, .bool false, .bool false] 23)).alloc
    (.cells #[.bool false, .bool false, .bool false, .bool false, .bool false, .bool false, .bool false, .bool false, .bool false] 23)).alloc
    (.cells #[.string { data := #[] }, .string { data := #[] }, .string { data := #[] }, .string { data := #[] }, .string { data := #[] }, .string { data := #[] }, .string { data := #[] }, .string { data := #[] }, .string { data := #[] }] 24)).alloc
    (.cells #[.string { data := #[] }, .string { data := #[] }, .string { data := #[] }, .string { data := #[] }, .string { data := #[] }, .string { data := #[] }, .string { data := #[] }, .string { data := #[] }, .string { data := #[] }] 24)) w.heap.size (w.heap.size + 1 + 1) (fun _ => false) (fun _ => []) := by
  intro k hk
  rcases lt9 hk with rfl | rfl | rfl | rfl | rfl | rfl | rfl | rfl | rfl <;> simp [go_sem, BS]
theorem arr_new2 (w : World) : Arr ((((w.alloc (.cells #[.bool false, .bool false, .bool false, .bool false, .bool false, .bool false, .bool false, .bool false, .bool false] 23)).alloc
    (.cells #[.bool false, .bool false, .bool false, .bool false, .bool false, .bool false, .bool false, .bool false, .bool false] 23)).alloc
    (.cells #[.string { data := #[] }, .string { data := #[] }, .string { data := #[] }, .string { data := #[] }, .string { data := #[] }, .string { data := #[] }, .string { data := #[] }, .string { data := #[] }, .string { data := #[] }] 24)).alloc
    (.cells #[.string { data := #[] }, .string { data := #[] }, .string { data := #[] }, .string { data := #[] }, .string { data := #[] }, .string { data := #[] }, .string { data := #[] }, .string { data := #[] }, .string { data := #[] }] 24)) (w.heap.size + 1) (w.heap.size + 1 + 1 + 1) (fun _ => false) (fun _ => []) := by
  intro k hk
  rcases lt9 hk with rfl | rfl | rfl | rfl | rfl | rfl | rfl | rfl | rfl <;> simp [go_sem, BS]
theorem Arr.alloc {w : World} {bp bv : Nat} {p : Nat → Bool} {v : Nat → List UInt8} (h : Arr w bp bv p v) (h1 : bp < w.heap.size) (h2 : bv < w.heap.size) (o : Obj) : Arr (w.alloc o) bp bv p v :=
  h.keeps (Below.heap_alloc w o bp h1) (Below.heap_alloc w o bv h2)

theorem Arr.turned {wr w3 : World} {M bp bv : Nat} {p : Nat → Bool} {v : Nat → List UInt8} (h : Arr wr bp bv p v) (ht : wr.mapTurned w3 M) (h1 : bp < wr.heap.size) (h2 : bv < wr.heap.size) (n1 : bp ≠ M) (n2 : bv ≠ M) : Arr w3 bp bv p v :=
  h.grown ht.grown h1 h2 (by intro e; cases e; exact n1 rfl) (by intro e; cases e; exact n2 rfl)

/-- One record more: the map, its two arrays, the other two arrays, and what lay. -/
theorem put_round {w wr w3 : World} {M bp bv cp cv n k : Nat} {p q : Nat → Bool} {v u : Nat → List UInt8} {l : List UInt8}
    (hmp : MapIs w3 M n (setP p k true) (setV v k l)) (ht : wr.mapTurned w3 M) (h3 : Arr w3 bp bv p v) (h4 : Arr w3 cp cv q u) (hb : Below w.heap.size w wr) (hk : k < 9)
    (d1 : bp ≠ bv) (d2 : M ≠ bp) (d3 : M ≠ bv) (d4 : cp ≠ bp) (d5 : cp ≠ bv) (d6 : cv ≠ bp) (d7 : cv ≠ bv) (m1 : w.heap.size ≤ M) (m2 : w.heap.size ≤ bp) (m3 : w.heap.size ≤ bv) :
    MapIs ((w3.setCell ⟨bp, k, none⟩ (.bool true)).setCell ⟨bv, k, none⟩ (.string (BS l))) M n (setP p k true) (setV v k l) ∧
    Arr ((w3.setCell ⟨bp, k, none⟩ (.bool true)).setCell ⟨bv, k, none⟩ (.string (BS l))) bp bv (setP p k true) (setV v k l) ∧
    Arr ((w3.setCell ⟨bp, k, none⟩ (.bool true)).setCell ⟨bv, k, none⟩ (.string (BS l))) cp cv q u ∧
    Below w.heap.size w ((w3.setCell ⟨bp, k, none⟩ (.bool true)).setCell ⟨bv, k, none⟩ (.string (BS l))) := by
  refine ⟨(hmp.setCell d2 _).setCell d3 _, (h3.setP d1 hk true).setV d1 hk l, (h4.setOther d4 d6 _).setOther d5 d7 _, ?_⟩
  exact ((hb.grown ht.grown hb.size (fun j e => by cases e; exact m1)).setCell (p := ⟨bp, k, none⟩) m2 _).setCell (p := ⟨bv, k, none⟩) m3 _
/-- One key of the model's run: its two arrays written, all else kept. -/
theorem model_round {w wr : World} {M0 M1 n0 n1 bp bv cp cv k : Nat} {p q pm qm : Nat → Bool} {v u vm um : Nat → List UInt8}
    (hm0 : MapIs wr M0 n0 pm vm) (hm1 : MapIs wr M1 n1 qm um) (h3 : Arr wr bp bv p v) (h4 : Arr wr cp cv q u) (hb : Below w.heap.size w wr) (hk : k < 9) (x : Bool) (l : List UInt8)
    (d1 : bp ≠ bv) (d2 : M0 ≠ bp) (d3 : M0 ≠ bv) (d4 : cp ≠ bp) (d5 : cp ≠ bv) (d6 : cv ≠ bp) (d7 : cv ≠ bv) (e2 : M1 ≠ bp) (e3 : M1 ≠ bv) (m2 : w.heap.size ≤ bp) (m3 : w.heap.size ≤ bv) :
    Arr ((wr.setCell ⟨bp, k, none⟩ (.bool x)).setCell ⟨bv, k, none⟩ (.string (BS l))) bp bv (setP p k x) (setV v k l) ∧
    Arr ((wr.setCell ⟨bp, k, none⟩ (.bool x)).setCell ⟨bv, k, none⟩ (.string (BS l))) cp cv q u ∧
    MapIs ((wr.setCell ⟨bp, k, none⟩ (.bool x)).setCell ⟨bv, k, none⟩ (.string (BS l))) M0 n0 pm vm ∧
    MapIs ((wr.setCell ⟨bp, k, none⟩ (.bool x)).setCell ⟨bv, k, none⟩ (.string (BS l))) M1 n1 qm um ∧
    Below w.heap.size w ((wr.setCell ⟨bp, k, none⟩ (.bool x)).setCell ⟨bv, k, none⟩ (.string (BS l))) :=
  ⟨(h3.setP d1 hk x).setV d1 hk l, (h4.setOther d4 d6 _).setOther d5 d7 _, (hm0.setCell d2 _).setCell d3 _, (hm1.setCell e2 _).setCell e3 _, (hb.setCell (p := ⟨bp, k, none⟩) m2 _).setCell (p := ⟨bv, k, none⟩) m3 _⟩
theorem size_turned {wr w3 : World} {M : Nat} (ht : wr.mapTurned w3 M) : wr.heap.size ≤ w3.heap.size := ht.grown.size

set_option maxRecDepth 100000 in
set_option maxHeartbeats 4000000 in
theorem law_core (a0 a1 : Option Addr) (glen gcap rlen rcap : Nat) (GK GV RK RV : Nat → Int) (w : World) (hgl : glen ≤ 1024) (hrl : rlen ≤ 1024)
    (hG : RecsAt w a0 glen gcap GK GV) (hR : RecsAt w a1 rlen rcap RK RV) :
    Calls Ybaf.prog 3 #[.slice a0 glen gcap, .slice a1 rlen rcap] w fun e w' => e = .returned (.bool true) ∧ Below w.heap.size w w' := by
  have hmm := @run_makeMap Ybaf.prog
  have n1 : decide ((1024 : Int) < (glen : Int)) = false := by simp; omega
  have n2 : decide ((1024 : Int) < (rlen : Int)) = false := by simp; omega
  go_enter Ybaf.func3, Ybaf.ntmps3
  go_wp2_with fail
  go_loopw [10] (fun i wr => ∃ (j : Nat) (p : Nat → Bool) (v : Nat → List UInt8), j ≤ glen ∧ i = .int .i64 j ∧ MapIs wr (w.heap.size + 1 + 1 + 1 + 1) j p v ∧ Arr wr w.heap.size (w.heap.size + 1 + 1) p v ∧
      Arr wr (w.heap.size + 1) (w.heap.size + 1 + 1 + 1) (fun _ => false) (fun _ => []) ∧ Below w.heap.size w wr ∧ w.heap.size + 5 ≤ wr.heap.size)
    (fun i _ => glen - (intOf i).toNat)
  case atStart =>
    refine ⟨0, _, _, Nat.zero_le _, rfl, ?_, (arr_new w).alloc (by first | (simp; done) | (simp; omega)) (by first | (simp; done) | (simp; omega)) _, (arr_new2 w).alloc (by first | (simp; done) | (simp; omega)) (by first | (simp; done) | (simp; omega)) _, ?_, by simp⟩
    · have := mapIs_made ((((w.alloc (.cells #[.bool false, .bool false, .bool false, .bool false, .bool false, .bool false, .bool false, .bool false, .bool false] 23)).alloc
        (.cells #[.bool false, .bool false, .bool false, .bool false, .bool false, .bool false, .bool false, .bool false, .bool false] 23)).alloc
        (.cells #[.string { data := #[] }, .string { data := #[] }, .string { data := #[] }, .string { data := #[] }, .string { data := #[] }, .string { data := #[] }, .string { data := #[] }, .string { data := #[] }, .string { data := #[] }] 24)).alloc
        (.cells #[.string { data := #[] }, .string { data := #[] }, .string { data := #[] }, .string { data := #[] }, .string { data := #[] }, .string { data := #[] }, .string { data := #[] }, .string { data := #[] }, .string { data := #[] }] 24))
      simpa using this
    · exact (((((Below.refl _ _).alloc (Nat.le_refl _) _).alloc (by simp) _).alloc (by simp; omega) _).alloc (by simp; omega) _).alloc (by simp; omega) _
  case round =>
    obtain ⟨j, p, v, hj, rfl, hmp, harr, hoth, hb, hsz⟩ := hrel
    by_cases hlt : j < glen
    · obtain ⟨b, off, hidx, hbl, hK, hV, k0, k1, v0, v1⟩ := hG j hlt
      have hK' : wr.cell? ⟨b, off, none⟩ = some (.int .u8 (GK j)) := (hb.cell (p := ⟨b, off, none⟩) hbl).trans hK
      have hV' : wr.cell? ⟨b, off + 1, none⟩ = some (.int .u8 (GV j)) := (hb.cell (p := ⟨b, off + 1, none⟩) hbl).trans hV
      have hidx' := hidx wr
      obtain ⟨k, hk⟩ : ∃ k : Nat, GK j % 9 = (k : Int) := ⟨(GK j % 9).toNat, by omega⟩
      obtain ⟨m, hm⟩ : ∃ m : Nat, GV j % 3 = (m : Int) := ⟨(GV j % 3).toNat, by omega⟩
      have hk9 : k < 9 := by omega
      have hm3 : m < 3 := by omega
      have kb : (k : Int) < 9 := by omega
      clear hG hR hK hV hidx
      go_wp2_with (first
        | (go_at_call 4; refine (val_any m hm3 _).mono ?_; rintro e w' ⟨rfl, rfl⟩)
        | (go_at_call 5; refine (key_any k hk9 _).mono ?_; rintro e w' ⟨rfl, rfl⟩)
        | (at_mapUpdate; refine wpList_put _ rfl _ _ _ rfl (w.heap.size + 1 + 1 + 1 + 1) j p v k (VL m) rfl hmp (by omega) hk9 rfl rfl (VL_len m) ?_; intro w3 hmp3 hturn; have harr3 := harr.turned hturn (by omega) (by omega) (by omega) (by omega); obtain ⟨c1, c2, c3, c4⟩ := harr3 k hk9))
      have hoth3 := hoth.turned hturn (by omega) (by omega) (by omega) (by omega)
      obtain ⟨r1, r2, r3, r4⟩ := put_round hmp3 hturn harr3 hoth3 hb hk9 (by omega) (by omega) (by omega) (by omega) (by omega) (by omega) (by omega) (by omega) (by omega) (by omega)
      have hsz3 := size_turned hturn
      go_roundw
      case rel => exact ⟨j + 1, _, _, by omega, by go_num, r1, r2, r3, r4, by simp [World.setCell]; omega⟩
      case measure => simp [intOf]; omega
    · obtain ⟨w1, rfl⟩ : ∃ w1 : World, w1 = wr := ⟨_, rfl⟩
      have hmp0 : MapIs w1 (w.heap.size + 1 + 1 + 1 + 1) 1024 p v := hmp.mono (by omega)
      clear hG hmp
      go_wp2_with fail
      go_loopw [14] (fun i wr => ∃ (j : Nat) (q : Nat → Bool) (u : Nat → List UInt8), j ≤ rlen ∧ i = .int .i64 j ∧ MapIs wr w1.heap.size j q u ∧ Arr wr (w.heap.size + 1) (w.heap.size + 1 + 1 + 1) q u ∧ (∀ k, (u k).length ≤ 4096) ∧
          MapIs wr (w.heap.size + 1 + 1 + 1 + 1) 1024 p v ∧ Arr wr w.heap.size (w.heap.size + 1 + 1) p v ∧ Below w.heap.size w wr ∧ w1.heap.size + 1 ≤ wr.heap.size)
        (fun i _ => rlen - (intOf i).toNat)
      case atStart =>
        exact ⟨0, _, _, Nat.zero_le _, rfl, mapIs_made w1, hoth.alloc (by omega) (by omega) _, fun _ => by simp, hmp0.alloc _, harr.alloc (by omega) (by omega) _, hb.alloc (by omega) _, by simp⟩
      case round =>
        clear hmp0 harr hoth hb
        obtain ⟨j2, q, u, hj2, rfl, hmq, harq, hul, hmp, harr, hb, hsz2⟩ := hrel
        by_cases hlt2 : j2 < rlen
        · obtain ⟨b, off, hidx, hbl, hK, hV, k0, k1, v0, v1⟩ := hR j2 hlt2
          have hK' : wr.cell? ⟨b, off, none⟩ = some (.int .u8 (RK j2)) := (hb.cell (p := ⟨b, off, none⟩) hbl).trans hK
          have hV' : wr.cell? ⟨b, off + 1, none⟩ = some (.int .u8 (RV j2)) := (hb.cell (p := ⟨b, off + 1, none⟩) hbl).trans hV
          have hidx' := hidx wr
          obtain ⟨k, hk⟩ : ∃ k : Nat, RK j2 % 9 = (k : Int) := ⟨(RK j2 % 9).toNat, by omega⟩
          obtain ⟨m, hm⟩ : ∃ m : Nat, RV j2 % 3 = (m : Int) := ⟨(RV j2 % 3).toNat, by omega⟩
          have hk9 : k < 9 := by omega
          have hm3 : m < 3 := by omega
          have kb : (k : Int) < 9 := by omega
          clear hR hK hV hidx
          go_wp2_with (first
            | (go_at_call 4; refine (val_any m hm3 _).mono ?_; rintro e w' ⟨rfl, rfl⟩)
            | (go_at_call 5; refine (key_any k hk9 _).mono ?_; rintro e w' ⟨rfl, rfl⟩)
            | (at_mapUpdate; refine wpList_put _ rfl _ _ _ rfl w1.heap.size j2 q u k (VL m) rfl hmq (by omega) hk9 rfl rfl (VL_len m) ?_; intro w3 hmq3 hturn; have harq3 := harq.turned hturn (by omega) (by omega) (by omega) (by omega); obtain ⟨c1, c2, c3, c4⟩ := harq3 k hk9))
          have harr3 := harr.turned hturn (by omega) (by omega) (by omega) (by omega)
          have hmp3 := hmp.kept hturn.grown (by intro e; have := Option.some.inj e; omega)
          obtain ⟨r1, r2, r3, r4⟩ := put_round hmq3 hturn harq3 harr3 hb hk9 (by omega) (by omega) (by omega) (by omega) (by omega) (by omega) (by omega) (by omega) (by omega) (by omega)
          have r5 := (hmp3.setCell (a := ⟨w.heap.size + 1, k, none⟩) (by show w.heap.size + 1 + 1 + 1 + 1 ≠ w.heap.size + 1; omega) (.bool true)).setCell (a := ⟨w.heap.size + 1 + 1 + 1, k, none⟩) (by show w.heap.size + 1 + 1 + 1 + 1 ≠ w.heap.size + 1 + 1 + 1; omega) (.string (BS (VL m)))
          have hsz3 := size_turned hturn
          have hul3 : ∀ i, (setV u k (VL m) i).length ≤ 4096 := by intro i; unfold setV; split; exact VL_len m; exact hul i
          go_roundw
          case rel => exact ⟨j2 + 1, _, _, by omega, by go_num, r1, r2, hul3, r5, r3, r4, by simp [World.setCell]; omega⟩
          case measure => simp [intOf]; omega
        · obtain ⟨w4, rfl⟩ : ∃ w4 : World, w4 = wr := ⟨_, rfl⟩
          have hmq0 : MapIs w4 w1.heap.size 1024 q u := hmq.mono (by omega)
          clear hR hmq
          obtain ⟨R, HR⟩ : ∃ R, Hid (runK u (from_ q 0) p v = R) := ⟨_, rfl⟩
          go_wp2_with fail
          go_loopw [17, 18] (fun e i wr => ∃ (j : Nat) (p' : Nat → Bool) (v' : Nat → List UInt8), j ≤ 9 ∧ i = .int .i64 j ∧ e = .bool false ∧ Hid (runK u (from_ q j) p' v' = R) ∧ Arr wr w.heap.size (w.heap.size + 1 + 1) p' v' ∧
              Arr wr (w.heap.size + 1) (w.heap.size + 1 + 1 + 1) q u ∧ MapIs wr (w.heap.size + 1 + 1 + 1 + 1) 1024 p v ∧ MapIs wr w1.heap.size 1024 q u ∧ Below w.heap.size w wr ∧ w1.heap.size + 1 ≤ wr.heap.size)
            (fun _ i _ => 9 - (intOf i).toNat)
          case atStart => exact ⟨0, p, v, by omega, rfl, rfl, HR, harr, harq, hmp, hmq0, hb, hsz2⟩
          case round =>
            clear harr harq hmp hmq0 hb hsz2
            obtain ⟨k, p', v', hk, rfl, rfl, hRk, harr, harq, hmp, hmq, hb, hsz2⟩ := hrel
            by_cases hk9 : k < 9
            · obtain ⟨c1, c2, c3, c4⟩ := harr k hk9
              obtain ⟨d1, d2, d3, d4⟩ := harq k hk9
              have kb : (k : Int) < 9 := by omega
              cases hq : q k
              · rw [hq] at d1
                have hR1 : Hid (runK u (from_ q (k + 1)) p' v' = R) := by have := hRk.out; rwa [from_skip hk9 hq] at this
                clear hq hRk
                go_wp2
                go_roundw
                case rel => exact ⟨k + 1, p', v', by omega, by go_num, rfl, hR1, harr, harq, hmp, hmq, hb, hsz2⟩
                case measure => simp [intOf]; omega
              · rw [hq] at d1
                cases hf : forb k
                · have hR1 : Hid (runK u (from_ q (k + 1)) (stepP u k p') (stepV u k v') = R) := by
                    have := hRk.out
                    rw [from_take hk9 hq] at this
                    simpa [runK, hf, Hid] using this
                  have hempty := BS_empty (u k)
                  have hfk := forb_any k hk9
                  simp only [hf] at hfk
                  clear hq hRk hf
                  cases hv : (u k).isEmpty
                  · rw [hv] at hempty
                    have hstep : Hid (setP p' k true = stepP u k p') := by simp [Hid, stepP, hv]
                    clear hv
                    go_wp2_with (go_at_call 6; refine (hfk _).mono ?_; rintro e w' ⟨rfl, rfl⟩)
                    have r := model_round hmp hmq harr harq hb hk9 true (u k) (by omega) (by omega) (by omega) (by omega) (by omega) (by omega) (by omega) (by omega) (by omega) (by omega) (by omega)
                    rw [hstep.out] at r
                    go_roundw
                    case rel => exact ⟨k + 1, _, _, by omega, by go_num, rfl, hR1, r.1, r.2.1, r.2.2.1, r.2.2.2.1, r.2.2.2.2, by simpa [World.setCell] using hsz2⟩
                    case measure => simp [intOf]; omega
                  · rw [hv] at hempty
                    have hstep : Hid (setP p' k false = stepP u k p') := by simp [Hid, stepP, hv]
                    have hstep2 : Hid (setV v' k [] = stepV u k v') := by simp [Hid, stepV, List.isEmpty_iff.1 hv]
                    clear hv
                    go_wp2_with (go_at_call 6; refine (hfk _).mono ?_; rintro e w' ⟨rfl, rfl⟩)
                    have r := model_round hmp hmq harr harq hb hk9 false [] (by omega) (by omega) (by omega) (by omega) (by omega) (by omega) (by omega) (by omega) (by omega) (by omega) (by omega)
                    rw [hstep.out, hstep2.out] at r
                    go_roundw
                    case rel => exact ⟨k + 1, _, _, by omega, by go_num, rfl, hR1, r.1, r.2.1, r.2.2.1, r.2.2.2.1, r.2.2.2.2, by simpa [World.setCell] using hsz2⟩
                    case measure => simp [intOf]; omega
                · have hR1 : Hid ((p', v', true) = R) := by
                    have := hRk.out
                    rw [from_take hk9 hq] at this
                    simpa [runK, hf, Hid] using this
                  have hfk := forb_any k hk9
                  simp only [hf] at hfk
                  clear hq hRk hf
                  obtain rfl := hR1.out
                  obtain ⟨w5, rfl⟩ : ∃ w5 : World, w5 = wr := ⟨_, rfl⟩
                  go_wp2_with (first
                    | (go_at_call 6; refine (hfk _).mono ?_; rintro e w' ⟨rfl, rfl⟩))
                  have hif : Ybaf.prog.isIface 31 = true := by kernel_rfl
                  refine (add_any (w.heap.size + 1 + 1 + 1 + 1) w1.heap.size 1024 1024 p q v u _ hmp hmq (by omega) (by omega) (by omega) hul _ HR).mono ?_
                  rintro e w6 ⟨err, rfl, hcase, hmG, hgw⟩
                  have hcase' : ∃ a, err = .iface 51 (.pointer (some a)) := by
                    rcases hcase with ⟨h, _⟩ | ⟨_, h⟩
                    · cases h
                    · exact h
                  obtain ⟨a, rfl⟩ := hcase'
                  have hsz6 := hgw.size
                  have harr6 := harr.grown hgw (by omega) (by omega) (by intro e; have := Option.some.inj e; omega) (by intro e; have := Option.some.inj e; omega)
                  have harq6 := harq.grown hgw (by omega) (by omega) (by intro e; have := Option.some.inj e; omega) (by intro e; have := Option.some.inj e; omega)
                  have hmq6 := hmq.kept hgw (by intro e; have := Option.some.inj e; omega)
                  have hb6 := hb.grown hgw hb.size (fun j e => by have := Option.some.inj e; omega)
                  clear hcase harr harq hmp hmq hb hgw HR hfk hR1
                  go_wp2_with fail
                  go_loop [20, 21, 22] (fun c r i => ∃ j : Nat, j ≤ 9 ∧ i = .int .i64 j ∧ c = .int .i64 (cnt p' j) ∧ r = .int .i64 (cnt q j)) (fun _ _ i => 9 - (intOf i).toNat)
                  case atStart => exact ⟨0, by omega, rfl, rfl, rfl⟩
                  case round =>
                    obtain ⟨j, hj, rfl, rfl, rfl⟩ := hrel
                    by_cases hj9 : j < 9
                    · obtain ⟨c1, c2, c3, c4⟩ := harr6 j hj9
                      obtain ⟨d1, d2, d3, d4⟩ := harq6 j hj9
                      have l1 := hmG.lookOk hj9
                      have l2 := hmq6.lookOk hj9
                      have kb : (j : Int) < 9 := by omega
                      have n1 := cnt_succ p' j
                      have n2 := cnt_succ q j
                      have m1 := cnt_le p' j
                      have m2 := cnt_le q j
                      cases hp : p' j <;> cases hq : q j
                      all_goals
                        simp only [hp] at c1 l1 n1
                        simp only [hq] at d1 l2 n2
                        clear hp hq
                        go_wp2_with (go_at_call 5; refine (key_any j hj9 _).mono ?_; rintro e w' ⟨rfl, rfl⟩)
                        simp only [Bool.false_eq_true, if_false, if_true, Nat.add_zero] at n1 n2
                        refine ⟨⟨j + 1, by omega, by go_num, ?_, ?_⟩, by simp [intOf]; omega⟩
                        · rw [n1]; first | done | go_num
                        · rw [n2]; first | done | go_num
                    · obtain rfl : j = 9 := by omega
                      have l1 := hmG.len
                      have l2 := hmq6.len
                      go_wp2
                      go_ret
                      exact ⟨rfl, hb6⟩
            · obtain rfl : k = 9 := by omega
              have hR1 : Hid ((p', v', false) = R) := by
                have := hRk.out
                rwa [from_end] at this
              clear hRk
              obtain rfl := hR1.out
              obtain ⟨w5, rfl⟩ : ∃ w5 : World, w5 = wr := ⟨_, rfl⟩
              go_wp2_with fail
              have hif : Ybaf.prog.isIface 31 = true := by kernel_rfl
              refine (add_any (w.heap.size + 1 + 1 + 1 + 1) w1.heap.size 1024 1024 p q v u _ hmp hmq (by omega) (by omega) (by omega) hul _ HR).mono ?_
              rintro e w6 ⟨err, rfl, hcase, hmG, hgw⟩
              have hcase' : err = .nilIface := by
                rcases hcase with ⟨_, h⟩ | ⟨h, _⟩
                · exact h
                · cases h
              obtain rfl := hcase'
              have hsz6 := hgw.size
              have harr6 := harr.grown hgw (by omega) (by omega) (by intro e; have := Option.some.inj e; omega) (by intro e; have := Option.some.inj e; omega)
              have harq6 := harq.grown hgw (by omega) (by omega) (by intro e; have := Option.some.inj e; omega) (by intro e; have := Option.some.inj e; omega)
              have hmq6 := hmq.kept hgw (by intro e; have := Option.some.inj e; omega)
              have hb6 := hb.grown hgw hb.size (fun j e => by have := Option.some.inj e; omega)
              clear hcase harr harq hmp hmq hb hgw HR hR1
              go_wp2_with fail
              go_loop [20, 21, 22] (fun c r i => ∃ j : Nat, j ≤ 9 ∧ i = .int .i64 j ∧ c = .int .i64 (cnt p' j) ∧ r = .int .i64 (cnt q j)) (fun _ _ i => 9 - (intOf i).toNat)
              case atStart => exact ⟨0, by omega, rfl, rfl, rfl⟩
              case round =>
                obtain ⟨j, hj, rfl, rfl, rfl⟩ := hrel
                by_cases hj9 : j < 9
                · obtain ⟨c1, c2, c3, c4⟩ := harr6 j hj9
                  obtain ⟨d1, d2, d3, d4⟩ := harq6 j hj9
                  have l1 := hmG.lookOk hj9
                  have l2 := hmq6.lookOk hj9
                  have kb : (j : Int) < 9 := by omega
                  have n1 := cnt_succ p' j
                  have n2 := cnt_succ q j
                  have m1 := cnt_le p' j
                  have m2 := cnt_le q j
                  cases hp : p' j <;> cases hq : q j
                  all_goals
                    simp only [hp] at c1 l1 n1
                    simp only [hq] at d1 l2 n2
                    clear hp hq
                    go_wp2_with (go_at_call 5; refine (key_any j hj9 _).mono ?_; rintro e w' ⟨rfl, rfl⟩)
                    simp only [Bool.false_eq_true, if_false, if_true, Nat.add_zero] at n1 n2
                    refine ⟨⟨j + 1, by omega, by go_num, ?_, ?_⟩, by simp [intOf]; omega⟩
                    · rw [n1]; first | done | go_num
                    · rw [n2]; first | done | go_num
                · obtain rfl : j = 9 := by omega
                  have l1 := hmG.len
                  have l2 := hmq6.len
                  go_wp2
                  go_ret
                  exact ⟨rfl, hb6⟩
end Go.Proofs.YbulkbjzoFmt
