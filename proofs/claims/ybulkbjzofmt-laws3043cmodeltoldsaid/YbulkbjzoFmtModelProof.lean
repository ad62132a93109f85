/-
  LawS3043CModel: THE TOLD CARD, PROVED (the frame after the guide's worked told rows, turned to slices of pairs).
-/
import Derived.Test.YbulkbjzoFmtCards
import Derived.Test.YbulkbjzoFmtLaw
import Derived.ProofKit
import Derived.OpenShut
import Derived.ChangeOld
import Derived.JoinedOf
import Derived.Carry
import Derived.Deep.SlicePairs
import Derived.Stop.JoinedAt
import Derived.Stop.JoinedTold
import Derived.SevenToldRow
namespace Go.Proofs.YbulkbjzoFmt.lawS3043CModel
open Go.ChangeShapes Go.WideShapes Go.ChangeAt Go.RowKit Go.Kit
open Go.Extern.Stop Go.Stop Go.Extern
set_option linter.unusedVariables false

theorem own : ownKnob Ybaf.prog.godebug = none := by kernel_rfl
theorem laidOut : laidOutB Ybaf.pinned.checked.prog = true := by kernel_rfl
theorem stops : Ybaf.pinned.checked.prog.stops = ["fmt.errorf"] := by kernel_rfl
theorem stopKnobs : Ybaf.pinned.checked.prog.stopKnobs = [] := by kernel_rfl
theorem quiet (os : Os) : Stop.quiet Ybaf.pinned.checked.prog os := by
  intro k hk
  rw [stopKnobs] at hk
  cases hk
theorem cells27 : Ybaf.prog.cellsOf 27 = 2 := by kernel_rfl
theorem cells5 : Ybaf.prog.cellsOf 5 = 1 := by kernel_rfl

set_option maxRecDepth 100000 in
theorem walk_great0 (a0 a1 : Option Addr) (glen gcap rlen rcap : Nat) (w : World) (hl : 1024 < glen) :
    Calls Ybaf.prog 3 #[.slice a0 glen gcap, .slice a1 rlen rcap] w fun e w' => e = .returned (.bool true) ∧ Below w.heap.size w w' := by
  have hyes : decide ((1024 : Int) < (glen : Int)) = true := by simp; omega
  go_enter Ybaf.func3, Ybaf.ntmps3
  go_wp2
  go_ret
  exact ⟨rfl, Below.refl _ _⟩
set_option maxRecDepth 100000 in
theorem walk_great1 (a0 a1 : Option Addr) (glen gcap rlen rcap : Nat) (w : World) (h0 : ¬ 1024 < glen) (hl : 1024 < rlen) :
    Calls Ybaf.prog 3 #[.slice a0 glen gcap, .slice a1 rlen rcap] w fun e w' => e = .returned (.bool true) ∧ Below w.heap.size w w' := by
  have hno : decide ((1024 : Int) < (glen : Int)) = false := by simp; omega
  have hyes : decide ((1024 : Int) < (rlen : Int)) = true := by simp; omega
  go_enter Ybaf.func3, Ybaf.ntmps3
  go_wp2
  go_ret
  exact ⟨rfl, Below.refl _ _⟩

/-- The walk's word for a slice of records that came in. -/
theorem recs {H : Type} {enc : TypeId × Value → H} {W : World} {spare : Nat → Bool} {held : Bool} {fuel : Nat} {a : Option Addr} {len cap : Nat} {x : DataW H × List MemPlace}
    (h : DataW.trod enc Ybaf.prog W 0 spare held fuel 22 [.slice a len cap] = some x) : ∃ K V, RecsAt W a len cap K V := by
  rcases Deep.open_slice_pairs Ybaf.underlying22 Ybaf.underlying27 cells27 rfl rfl cells5 cells5 h with ⟨hcs, _⟩ | ⟨b, l, c, m, n, V0, V1, D0, D1, P0, P1, hcs, _, hl, hm, hmm, _, hel⟩
  · simp at hcs
    obtain ⟨rfl, rfl, rfl⟩ := hcs
    exact ⟨fun _ => 0, fun _ => 0, fun i hi => absurd hi (Nat.not_lt_zero _)⟩
  · simp at hcs
    obtain ⟨rfl, rfl, rfl⟩ := hcs
    have hlm : len ≤ m := by rw [hmm]; split <;> omega
    have hall : ∀ i, i < len → ∃ z : Int × Int, V0 i = .int .u8 z.1 ∧ V1 i = .int .u8 z.2 ∧ 0 ≤ z.1 ∧ z.1 ≤ 255 ∧ 0 ≤ z.2 ∧ z.2 ≤ 255 := by
      intro i hi
      obtain ⟨_, _, t0, t1⟩ := hel i (by omega)
      obtain ⟨n0, e0, _, w0⟩ := DataW.trod_int Ybaf.underlying5 t0
      obtain ⟨n1, e1, _, w1⟩ := DataW.trod_int Ybaf.underlying5 t1
      simp at e0 e1
      simp [Lit.wf, IntKind.min, IntKind.max, IntKind.bits, IntKind.signed] at w0 w1
      exact ⟨(n0, n1), e0, e1, w0.1, w0.2, w1.1, w1.2⟩
    obtain ⟨F, hF⟩ := Deep.choose_lt hall
    refine ⟨fun i => (F i).1, fun i => (F i).2, fun i hi => ?_⟩
    obtain ⟨c0, c1, _, _⟩ := hel i (by omega)
    obtain ⟨e0, e1, k0, k1, v0, v1⟩ := hF i hi
    rw [e0] at c0
    rw [e1] at c1
    obtain ⟨b, off, spot⟩ := b
    have hspot : spot = none := by simpa [Addr.add] using World.cell?_spot (hel 0 (by omega)).1
    subst hspot
    have hbB : b < W.heap.size := by simpa [Addr.add] using World.block_lt_of_cell? _ _ c1
    refine ⟨b, off + i * 2, ?_, hbB, ?_, ?_, k0, k1, v0, v1⟩
    · intro W1
      have hlt : (i : Int) < (len : Int) := by omega
      simp [go_sem, hlt]
    · by_cases hi0 : i = 0
      · subst hi0; simpa [Addr.add] using c0
      · simpa [Addr.add, show i * 2 ≠ 0 by omega] using c0
    · simpa [Addr.add, Nat.add_assoc] using c1

theorem walk (a0 a1 : Option Addr) (glen gcap rlen rcap : Nat) (w : World) (h0 : ∃ K V, RecsAt w a0 glen gcap K V) (h1 : ∃ K V, RecsAt w a1 rlen rcap K V) :
    Calls Ybaf.prog 3 #[.slice a0 glen gcap, .slice a1 rlen rcap] w fun e w' => e = .returned (.bool true) ∧ Below w.heap.size w w' := by
  by_cases hg : 1024 < glen
  · exact walk_great0 a0 a1 glen gcap rlen rcap w hg
  by_cases hr : 1024 < rlen
  · exact walk_great1 a0 a1 glen gcap rlen rcap w hg hr
  obtain ⟨K, V, h0⟩ := h0
  obtain ⟨K1, V1, h1⟩ := h1
  exact law_core a0 a1 glen gcap rlen rcap K V K1 V1 w (by omega) (by omega) h0 h1

set_option maxRecDepth 100000 in
theorem lifted (os : Os) (started : os.Started) (H : Type) (enc : TypeId × Value → H) :
    ReturnsInTold none {} Ybaf.checked os 3 .any Input.okWide ((OpenSpec.ofChange Rows.lawS3043CModelSpec).preRow enc Ybaf.prog Ybaf.f3 [] false []) (fun F => ((OpenSpec.ofChange Rows.lawS3043CModelSpec).at F).post enc Ybaf.prog Ybaf.f3 false true false false) (aloneAtReturn Ybaf.prog) nothingAlways := by
  refine returnsInTold_of_row (C := Ybaf.checked) (s := OpenSpec.ofChange Rows.lawS3043CModelSpec) (by kernel_rfl) own started (by kernel_rfl) Ybaf.func3
    (OpenSpec.witness_stopped (enc := enc) (C := Ybaf.checked) false ⟨#[], #[.slice none 0 0, .slice none 0 0], []⟩ 8 (by kernel_rfl) (by kernel_rfl) (by kernel_rfl) (by kernel_rfl)) ?_
  intro F W base args ds gs before _ hF hval0 hW _ _ hsz _ _
  have hval : ∀ (j : Nat) t v, Ybaf.f3.params[j]? = some t → args[j]? = some v → Value.okWide Ybaf.prog W .any base t v := hval0
  have hW' := hW
  obtain ⟨p, q, hA0, hV, rfl, hfz, hnd⟩ := hW
  have hA : DataW.TrodAll enc Ybaf.prog W 0 (fun _ => true) true Ybaf.f3.params.toList args.toList ds p := hA0
  rw [Ybaf.params3] at hA hval
  obtain ⟨v0, vs0, d0, ds0, p0, q0, hargs, rfl, rfl, h0, r0⟩ := trodAll_cons hA
  obtain ⟨v1, vs1, d1, ds1, p1, q1, rfl, rfl, rfl, h1, r1⟩ := trodAll_cons r0
  obtain ⟨rfl, rfl, rfl⟩ := trodAll_nil r1
  obtain rfl : args = #[v0, v1] := by cases args; simp_all
  obtain ⟨rfl, rfl⟩ := trodVars_none hV
  obtain ⟨a0, len0, cap0, rfl⟩ := okWide_slice Ybaf.underlying22 (hval 0 22 v0 rfl rfl)
  obtain ⟨a1, len1, cap1, rfl⟩ := okWide_slice Ybaf.underlying22 (hval 1 22 v1 rfl rfl)
  have k0 := h0
  have k1 := h1
  have lt0 : ∀ x ∈ p0, x.block < W.heap.size := by obtain ⟨m, hm⟩ := k0; exact DataW.trod_lt m _ _ _ hm
  have lt1 : ∀ x ∈ p1, x.block < W.heap.size := by obtain ⟨m, hm⟩ := k1; exact DataW.trod_lt m _ _ _ hm
  have w0 : ∃ K V, RecsAt W a0 len0 cap0 K V := by
    obtain ⟨fuel, hf⟩ := h0
    exact recs hf
  have w1 : ∃ K V, RecsAt W a1 len1 cap1 K V := by
    obtain ⟨fuel, hf⟩ := h1
    exact recs hf
  clear hA0 hval0
  refine (walk a0 a1 len0 cap0 len1 cap1 W w0 w1).mono fun e W' ⟨he, bel⟩ => ?_
  subst he
  exact ⟨_, rfl, _, _, _, [], _, [], hW', trodAll_mk1 (shut_bool Ybaf.underlying4 _), (trodAll_cons_mk (Below.trod laidOut (by kernel_rfl) (of_decide_eq_true (by kernel_rfl)) k0 bel lt0) (trodAll_cons_mk (Below.trod laidOut (by kernel_rfl) (of_decide_eq_true (by kernel_rfl)) k1 bel lt1) trodAll_mk0)), rfl, bel.frame _, fun h => by cases h⟩

/-- THE STATEMENT. -/
theorem proved : Rows.LawS3043CModelToldSaid :=
  Claim7.holds_of_told_any 3 Ybaf.f3 "fmt.errorf" [] [] _ _ _ (by kernel_rfl) rfl rfl rfl laidOut (by kernel_rfl) rfl ⟨rfl, rfl, rfl, rfl, rfl, rfl, rfl⟩ rfl rfl (by kernel_rfl) (by kernel_rfl) Ybaf.func3 (by kernel_rfl)
    (of_decide_eq_true (by kernel_rfl)) (by unfold Func.isWrapper; first | (rw [if_pos (by decide +kernel)]; kernel_rfl) | (rw [if_neg (by decide +kernel)]; exact ⟨rfl, rfl⟩)) stops.symm rfl stopKnobs.symm (by kernel_rfl)
    (by kernel_rfl) (by kernel_rfl) (by kernel_rfl) (by kernel_rfl) (by kernel_rfl) (by kernel_rfl) (by kernel_rfl) (by kernel_rfl) (by kernel_rfl) rfl (by kernel_rfl) rfl rfl
    rfl rfl
    rfl (by kernel_rfl) (by kernel_rfl) (by kernel_rfl) (by decide) (by kernel_rfl)
    (OpenClaim.moreEntering_of (by kernel_rfl) (by kernel_rfl) (by kernel_rfl) (by kernel_rfl) (by kernel_rfl) (by kernel_rfl) (by kernel_rfl) (by kernel_rfl) (by kernel_rfl) (by kernel_rfl))
    ⟨_, WideRow.started_initial, quiet _⟩
    (fun os started _ H enc _ => lifted os started H enc)
end Go.Proofs.YbulkbjzoFmt.lawS3043CModel
