/-
  LawS3037AChain: THE STATEMENT, PROVED (the frame after the guide's skeleton for slices, turned to a slice of floats).
-/
import Derived.Test.YbulkbjwiChainWalk
import Derived.ProofKit
import Derived.OpenShut
import Derived.ShutString
import Derived.ChangeOld
import Derived.Deep.Slices
namespace Go.Proofs.Ybulkbjwi.lawS3037AChain
open Go.ChangeShapes Go.WideShapes Go.ChangeAt Go.RowKit
set_option linter.unusedVariables false

theorem own : ownKnob Yba.prog.godebug = none := by kernel_rfl
theorem laidOut : laidOutB Yba.prog = true := by kernel_rfl
theorem cells22 : Yba.prog.cellsOf 22 = 1 := by kernel_rfl

/-- What the walk is told of a slice of float64s that came in: each of its elements is a cell that holds a float64's bits. -/
def IsRowF (w : World) (a : Option Addr) (len : Nat) : Prop :=
  ∃ F : Nat → Nat, ∀ i, i < len → ∃ x, a = some x ∧ w.cell? (x.add i) = some (.float .f64 (F i)) ∧ F i < 18446744073709551616

/-- A cell that reads as a float64 holds one. -/
theorem trod_f64 {H : Type} {enc : TypeId × Value → H} {w : World} {base : Nat} {spare : Nat → Bool} {held : Bool} {n : Nat} {v : Value} {x : DataW H × List MemPlace}
    (h : DataW.trod enc Yba.prog w base spare held n 22 [v] = some x) : ∃ z : Nat, v = .float .f64 z ∧ z < 18446744073709551616 := by
  cases n with
  | zero => simp [DataW.trod] at h
  | succ n =>
    simp only [DataW.trod, Yba.underlying22] at h
    split at h
    all_goals (first | (simp_all; done) | skip)
    rename_i k b hk hv
    cases hk
    cases hv
    split at h
    · rename_i hh
      obtain ⟨rfl, hw⟩ := hh
      exact ⟨b, rfl, by simpa [Lit.wf] using hw⟩
    · cases h

theorem walk_great (a0 : Nat) (a1 : Option Addr) (len cap : Nat) (a2 : Int) (w : World) (hl : 1024 < len) :
    Calls Yba.prog 4 #[.float .f64 a0, .slice a1 len cap, .int .u8 a2] w fun e w' => e = .returned (.bool true) ∧ Below w.heap.size w w' := by
  have hyes : decide ((1024 : Int) < (len : Int)) = true := by simp; omega
  go_enter Yba.func4, Yba.ntmps4
  go_wp2
  go_ret
  exact ⟨rfl, Below.refl _ _⟩

set_option maxHeartbeats 1000000 in
theorem walk_empty (a0 : Nat) (a1 : Option Addr) (cap : Nat) (a2 : Int) (w : World) (w0 : a0 < 18446744073709551616) (h20 : 0 ≤ a2) (h21 : a2 ≤ 255) :
    Calls Yba.prog 4 #[.float .f64 a0, .slice a1 0 cap, .int .u8 a2] w fun e w' => e = .returned (.bool true) ∧ Below w.heap.size w w' := by
  have k5 := f64bits
  have r0 := low_range a0
  have hlow : (((low a0).toNat : Nat) : Int) = low a0 := by omega
  go_enter Yba.func4, Yba.ntmps4
  go_wp2_with (first
      | (go_at_call 7; refine (storeM _ _ (.int .u64 0) _ _ ?_ ?_).mono ?_; (simp [go_sem]); (simp [go_sem]); rintro e w' ⟨rfl, rfl⟩)
      | (go_at_call 10; refine (abs_any a0 w0 _).mono ?_; rintro e w' ⟨rfl, rfl⟩))
  refine wp_loop_rounds 1 ?_; rw [rounds_succ]
  go_wp2
  go_ret
  exact ⟨rfl, (Below.refl _ _).alloc (Nat.le_refl _) _⟩

theorem walk (a0 : Nat) (a1 : Option Addr) (len cap : Nat) (a2 : Int) (w : World) (w0 : (Lit.float .f64 a0).wf = true) (w1 : IsRowF w a1 len) (w2 : (Lit.int .u8 a2).wf = true) :
    Calls Yba.prog 4 #[.float .f64 a0, .slice a1 len cap, .int .u8 a2] w fun e w' => e = .returned (.bool true) ∧ Below w.heap.size w w' := by
  have b0 : a0 < 18446744073709551616 := by simpa [Lit.wf] using w0
  have b2 : 0 ≤ a2 ∧ a2 ≤ 255 := by simpa [Lit.wf, IntKind.min, IntKind.max, IntKind.bits, IntKind.signed] using w2
  by_cases hg : 1024 < len
  · exact walk_great a0 a1 len cap a2 w hg
  by_cases h0 : len = 0
  · subst h0
    exact walk_empty a0 a1 cap a2 w b0 b2.1 b2.2
  obtain ⟨F, hF⟩ := w1
  obtain ⟨x, rfl, hx, _⟩ := hF 0 (by omega)
  obtain ⟨b, off, spot⟩ := x
  have hspot : spot = none := by simpa [Addr.add] using World.cell?_spot hx
  subst hspot
  have hbB : b < w.heap.size := by simpa [Addr.add] using World.block_lt_of_cell? _ _ hx
  refine chain_walk a0 b off len cap F a2 w b0 (fun i hi => by obtain ⟨_, _, _, hlt⟩ := hF i hi; exact hlt) (by omega) b2.1 b2.2 hbB fun i hi => ?_
  obtain ⟨y, hy, hc, _⟩ := hF i hi
  cases hy
  by_cases hi0 : i = 0
  · subst hi0; simpa [Addr.add] using hc
  · simpa [Addr.add, hi0] using hc

set_option maxRecDepth 100000 in
theorem lifted (os : Os) (started : os.Started) (H : Type) (enc : TypeId × Value → H) :
    ReturnsInHanded {} Yba.checked os 4 .any (Rows.lawS3037AChainSpec.pre6 enc Yba.prog Yba.f4 Rows.lawS3037AChainRow.domain false) (Rows.lawS3037AChainSpec.post enc Yba.prog Yba.f4 false true false false) := by
  refine returnsInHanded_of_change (C := Yba.checked) own started (by kernel_rfl) Yba.func4
    (ChangeSpec.witness6 (enc := enc) (C := Yba.checked) false ⟨#[], #[.float .f64 0, .slice none 0 0, .int .u8 0], []⟩ 8 (by kernel_rfl) (by kernel_rfl) (by kernel_rfl) (by kernel_rfl)) ?_
  intro W base args ds gs before hval0 hW hcnd _
  have hval : ∀ (j : Nat) t v, Yba.f4.params[j]? = some t → args[j]? = some v → Value.okWide Yba.prog W .any base t v := hval0
  have hW' := hW
  obtain ⟨p, q, hA0, hV, rfl, hfz, hnd⟩ := hW
  have hA : DataW.TrodAll enc Yba.prog W 0 (fun _ => true) true Yba.f4.params.toList args.toList ds p := hA0
  rw [Yba.params4] at hA hval
  obtain ⟨v0, vs0, d0, ds0, p0, q0, hargs, rfl, rfl, h0, r0⟩ := trodAll_cons hA
  obtain ⟨v1, vs1, d1, ds1, p1, q1, rfl, rfl, rfl, h1, r1⟩ := trodAll_cons r0
  obtain ⟨v2, vs2, d2, ds2, p2, q2, rfl, rfl, rfl, h2, r2⟩ := trodAll_cons r1
  obtain ⟨rfl, rfl, rfl⟩ := trodAll_nil r2
  obtain rfl : args = #[v0, v1, v2] := by cases args; simp_all
  obtain ⟨rfl, rfl⟩ := trodVars_none hV
  obtain ⟨a0, rfl, rfl, rfl, w0⟩ := open_float Yba.underlying22 (hval 0 22 v0 rfl rfl) h0
  obtain ⟨a1, len1, cap1, rfl⟩ := okWide_slice Yba.underlying44 (hval 1 44 v1 rfl rfl)
  have k1 := h1
  have lt1 : ∀ x ∈ p1, x.block < W.heap.size := by obtain ⟨m, hm⟩ := k1; exact DataW.trod_lt m _ _ _ hm
  have w1 : IsRowF W a1 len1 := by
    obtain ⟨fuel, hf⟩ := h1
    rcases Deep.open_slice1 Yba.underlying44 cells22 hf with ⟨hcs, _⟩ | ⟨x, l, c, m, n, V, D, Pl, hcs, _, hl, hm, hmm, _, hel⟩
    · simp [Value.cells] at hcs
      obtain ⟨rfl, rfl, rfl⟩ := hcs
      exact ⟨fun _ => 0, fun i hi => absurd hi (Nat.not_lt_zero _)⟩
    · simp [Value.cells] at hcs
      obtain ⟨rfl, rfl, rfl⟩ := hcs
      have hm2 : m = cap1 := by simpa using hmm
      have hall : ∀ i, i < len1 → ∃ z : Nat, W.cell? (x.add i) = some (.float .f64 z) ∧ z < 18446744073709551616 := by
        intro i hi
        obtain ⟨e1, e2⟩ := hel i (by omega)
        obtain ⟨z, hz, hlt⟩ := trod_f64 e2
        exact ⟨z, by rw [e1, hz], hlt⟩
      obtain ⟨F, hF⟩ := Deep.choose_lt hall
      exact ⟨F, fun i hi => ⟨x, rfl, (hF i hi).1, (hF i hi).2⟩⟩
  obtain ⟨a2, rfl, rfl, rfl, w2⟩ := open_int Yba.underlying5 (hval 2 5 v2 rfl rfl) h2
  clear hA0 hval0
  refine (walk a0 a1 len1 cap1 a2 W w0 w1 w2).mono fun e W' ⟨he, bel⟩ => ?_
  subst he
  exact ⟨_, rfl, _, _, _, [], _, [], hW', trodAll_mk1 (shut_bool Yba.underlying4 _), (trodAll_cons_mk (shut_float Yba.underlying22 w0) (trodAll_cons_mk (Below.trod laidOut (by kernel_rfl) (of_decide_eq_true (by kernel_rfl)) k1 bel lt1) (trodAll_cons_mk (shut_int Yba.underlying5 w2) trodAll_mk0))), rfl, bel.frame _, fun h => by cases h⟩

theorem over : Rows.lawS3037AChainRow.holds Yba.pinned (OpenSpec.ofChange Rows.lawS3037AChainSpec) :=
  OpenClaim.holds_of_wide 4 Yba.f4 rfl rfl rfl rfl rfl rfl rfl ⟨rfl, rfl, rfl, rfl, rfl⟩ rfl rfl rfl rfl rfl (by kernel_rfl) Yba.func4 (by kernel_rfl)
    (of_decide_eq_true (by kernel_rfl)) (by unfold Func.isWrapper; first | (rw [if_pos (by decide +kernel)]; kernel_rfl) | (rw [if_neg (by decide +kernel)]; exact ⟨rfl, rfl⟩))
    (fun os started H enc _ => lifted os started H enc)

/-- THE STATEMENT. -/
theorem proved : Rows.LawS3037AChainSaid :=
  over
end Go.Proofs.Ybulkbjwi.lawS3037AChain
