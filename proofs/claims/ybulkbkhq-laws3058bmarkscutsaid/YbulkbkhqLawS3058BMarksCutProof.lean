/-
  THE SHELL OF A PROOF OF 'Rows.LawS3058BMarksCutSaid' ('example.com/millrace/millrace.LawS3058BMarksCut'), WRITTEN BY PROGRAM (proof-skeleton.mjs) off the guide's own print for that function. Not trusted: Lean checks it.
  The walk is filled in; all else is the guide's template at this function's number and types.
-/
import Derived.Test.YbulkbkhqMutex
import Derived.WalkKit
import Derived.LaidEql
import Derived.ProofKit
import Derived.OpenShut
import Derived.ShutString
namespace Go.Proofs.Ybulkbkhq.lawS3058BMarksCut
open Go.ChangeShapes Go.WideShapes Go.ChangeAt Go.RowKit
open Go.ChangeMaps (open_string shut_string)
set_option linter.unusedVariables false      -- a walk need not use every 'w<i>' (that an integer argument fits its kind)

theorem own : ownKnob Yba.prog.godebug = none := by kernel_rfl

set_option maxRecDepth 100000 in
set_option maxHeartbeats 800000 in
theorem drop_any (b off : Nat) (u : Bool) (w : World) (hc : w.cell? ⟨b, off + 4, none⟩ = some (.int .i32 0)) (hz : w.frozen? ⟨b, off + 4, none⟩ = false) (h8 : w.cell? ⟨b, off + 8, none⟩ = some (.bool u)) (hz8 : w.frozen? ⟨b, off + 8, none⟩ = false) :
    Calls Yba.prog 6 #[.pointer (some ⟨b, off, none⟩)] w fun e w' => e = .returned (.tuple #[]) ∧ w' = ((w.setCell ⟨b, off + 4, none⟩ (.int .i32 1)).setCell ⟨b, off + 8, none⟩ (.bool true)).setCell ⟨b, off + 4, none⟩ (.int .i32 0) := by
  go_enter Yba.func6, Yba.ntmps6
  go_wp2_with (first
    | (go_at_call 12; refine (lock_free b (off + 4) w hc hz).mono ?_; rintro e w' ⟨rfl, rfl⟩)
    | (go_at_call 8; refine (unlock_held b (off + 4) _ ?_ ?_).mono ?_; (simp [go_sem, hc]); (simp [go_sem, hz]); rintro e w' ⟨rfl, rfl⟩))
  go_end0
  exact ⟨rfl, rfl⟩

/-- 'p != p' on a pointer; 'f != nil' on a nil function value. -/
theorem neq_ptr (a : Addr) (w : World) : (binOp .neq 22 (.pointer (some a)) (.pointer (some a))).run Yba.prog w = .ok (.bool false) w := by
  have h : ∀ d : Nat, (Op.equalIn (d + 1) 22 (.pointer (some a)) (.pointer (some a))).run Yba.prog w = .ok true w := fun d => by
    simp [Op.equalIn, run_underlying Yba.underlying22, Yba.sizeOf25, run_sameAddr_same]
  simp only [binOp]
  simp [Op.equal, Op.maxDepth, h 9999]
theorem neq_nilFunc (w : World) : (binOp .neq 23 .nilFunc .nilFunc).run Yba.prog w = .ok (.bool false) w := by
  have h : ∀ d : Nat, (Op.equalIn (d + 1) 23 .nilFunc .nilFunc).run Yba.prog w = .ok true w := fun d => by
    simp [Op.equalIn, run_underlying Yba.underlying23]
  simp only [binOp]
  simp [Op.equal, Op.maxDepth, h 9999]
theorem eql_nil_ptr (t e : TypeId) (ht : Yba.prog.underlying t = some (.pointer e)) (w : World) : (binOp .eql t (.pointer none) (.pointer none)).run Yba.prog w = .ok (.bool true) w := by
  have h : ∀ d : Nat, (Op.equalIn (d + 1) t (.pointer none) (.pointer none)).run Yba.prog w = .ok true w := fun d => by
    simp [Op.equalIn, run_underlying ht]
  simp only [binOp]
  simp [Op.equal, Op.maxDepth, h 9999]

/-! ### STEP 1: THE WALK: the Go text returns true. 'Grown w w'': the world has at most new blocks (Derived/RowKit3.lean). Part the cases AHEAD of 'go_enter' where a test parts the walk; take each callee by a contract of your own. -/
set_option maxRecDepth 100000 in
set_option maxHeartbeats 1000000 in
theorem walk (a0 : Int) (a1 : Bool) (a2 : Bool) (a3 : ByteArray) (a4 : Int) (w0 : (Lit.int .i64 a0).wf = true) (w3 : a3.size ≤ maxLen) (w4 : (Lit.int .i64 a4).wf = true) (w : World) :
    Calls Yba.prog 3 #[.int .i64 a0, .bool a1, .bool a2, .string a3, .int .i64 a4] w fun e w' => e = .returned (.bool true) ∧ Grown w w' := by
  have n1 := neq_ptr
  have n2 := neq_nilFunc
  have n3 := eql_nil_ptr 27 _ Yba.underlying27
  have n4 := eql_nil_ptr 28 _ Yba.underlying28
  have hb : ∀ x : Bool, (x != x) = false := by intro x; cases x <;> rfl
  go_enter Yba.func3, Yba.ntmps3
  go_wp2_with (first
    | (go_at_call 6; refine (drop_any _ 0 a2 _ ?_ ?_ ?_ ?_).mono ?_; (simp [go_sem]); (simp [go_sem]); (simp [go_sem]); (simp [go_sem]); rintro e w' ⟨rfl, rfl⟩)
    | (go_at_call 7; refine (trylock_free _ _ _ ?_ ?_).mono ?_; (simp [go_sem]); (simp [go_sem]); rintro e w' ⟨rfl, rfl⟩)
    | (go_at_call 8; refine (unlock_held _ _ _ ?_ ?_).mono ?_; (simp [go_sem]); (simp [go_sem]); rintro e w' ⟨rfl, rfl⟩))
  go_ret
  exact ⟨rfl, by repeat (first | exact Grown.refl _ | apply Grown.drew | apply Grown.alloc)⟩

/-! ### THE ROW's STEP: WRITTEN OUT: LEAVE IT -/
set_option maxRecDepth 100000 in
theorem lifted (os : Os) (started : os.Started) (H : Type) (enc : TypeId × Value → H) :
    ReturnsInHanded {} Yba.checked os 3 .any (Rows.lawS3058BMarksCutSpec.pre6 enc Yba.prog Yba.f3 Rows.lawS3058BMarksCutRow.domain false) (Rows.lawS3058BMarksCutSpec.post enc Yba.prog Yba.f3 false true false false) := by
  refine returnsInHanded_of_change (C := Yba.checked) own started (by kernel_rfl) Yba.func3
    (ChangeSpec.witness6 (enc := enc) (C := Yba.checked) false ⟨#[], #[.int .i64 0, .bool false, .bool false, .string ByteArray.empty, .int .i64 0], []⟩ 8 (by kernel_rfl) (by kernel_rfl) (by kernel_rfl) (by kernel_rfl)) ?_
  intro W base args ds gs before hval0 hW hcnd _
  have hval : ∀ (j : Nat) t v, Yba.f3.params[j]? = some t → args[j]? = some v → Value.okWide Yba.prog W .any base t v := hval0
  have hW' := hW
  obtain ⟨p, q, hA0, hV, rfl, hfz, hnd⟩ := hW
  have hA : DataW.TrodAll enc Yba.prog W 0 (fun _ => true) true Yba.f3.params.toList args.toList ds p := hA0
  rw [Yba.params3] at hA hval
  obtain ⟨v0, vs0, d0, ds0, p0, q0, hargs, rfl, rfl, h0, r0⟩ := trodAll_cons hA
  obtain ⟨v1, vs1, d1, ds1, p1, q1, rfl, rfl, rfl, h1, r1⟩ := trodAll_cons r0
  obtain ⟨v2, vs2, d2, ds2, p2, q2, rfl, rfl, rfl, h2, r2⟩ := trodAll_cons r1
  obtain ⟨v3, vs3, d3, ds3, p3, q3, rfl, rfl, rfl, h3, r3⟩ := trodAll_cons r2
  obtain ⟨v4, vs4, d4, ds4, p4, q4, rfl, rfl, rfl, h4, r4⟩ := trodAll_cons r3
  obtain ⟨rfl, rfl, rfl⟩ := trodAll_nil r4
  obtain rfl : args = #[v0, v1, v2, v3, v4] := by cases args; simp_all
  obtain ⟨rfl, rfl⟩ := trodVars_none hV
  obtain ⟨a0, rfl, rfl, rfl, w0⟩ := open_int Yba.underlying3 (hval 0 3 v0 rfl rfl) h0
  obtain ⟨a1, rfl, rfl, rfl⟩ := open_bool Yba.underlying4 (hval 1 4 v1 rfl rfl) h1
  obtain ⟨a2, rfl, rfl, rfl⟩ := open_bool Yba.underlying4 (hval 2 4 v2 rfl rfl) h2
  obtain ⟨a3, rfl, rfl, rfl, w3⟩ := open_string Yba.underlying9 (hval 3 9 v3 rfl rfl) h3
  obtain ⟨a4, rfl, rfl, rfl, w4⟩ := open_int Yba.underlying3 (hval 4 3 v4 rfl rfl) h4
  clear hA0 hval0
  simp only [List.append_nil] at hW'
  refine (walk a0 a1 a2 a3 a4 w0 w3 w4 W).mono fun e W' ⟨he, hg⟩ => ?_
  subst he
  exact ⟨_, rfl, post_of_same (pa := []) (pv := []) hW' (fun _ _ _ => (trodAll_cons_mk (shut_bool Yba.underlying4 _) trodAll_mk0)) (fun sp _ => (trodAll_cons_mk (shut_int Yba.underlying3 w0) (trodAll_cons_mk (shut_bool Yba.underlying4 _) (trodAll_cons_mk (shut_bool Yba.underlying4 _) (trodAll_cons_mk (shut_string Yba.underlying9 w3) (trodAll_cons_mk (shut_int Yba.underlying3 w4) trodAll_mk0)))))) (fun _ _ => rfl) rfl
    (hg.frame _) hg.2.1 (ok_one (by kernel_rfl) rfl (okWide_bool_mk Yba.underlying4 _))⟩

theorem over : Rows.lawS3058BMarksCutRow.holds Yba.pinned (OpenSpec.ofChange Rows.lawS3058BMarksCutSpec) :=
  OpenClaim.holds_of_wide 3 Yba.f3 rfl rfl rfl rfl rfl rfl rfl ⟨rfl, rfl, rfl, rfl, rfl⟩ rfl rfl rfl rfl rfl (by kernel_rfl) Yba.func3 (by kernel_rfl)
    (of_decide_eq_true (by kernel_rfl)) (by unfold Func.isWrapper; first | (rw [if_pos (by decide +kernel)]; kernel_rfl) | (rw [if_neg (by decide +kernel)]; exact ⟨rfl, rfl⟩))
    (fun os started H enc _ => lifted os started H enc)

/-- ████ THE STATEMENT ████ -/
theorem proved : Rows.LawS3058BMarksCutSaid :=
  over
end Go.Proofs.Ybulkbkhq.lawS3058BMarksCut
