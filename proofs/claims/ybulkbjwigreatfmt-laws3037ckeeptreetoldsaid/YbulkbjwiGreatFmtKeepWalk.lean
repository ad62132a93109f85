/-
  LawS3037CKeepTree: THE WALK.
-/
import Derived.Test.YbulkbjwiGreatFmtResultOn
namespace Go.Proofs.YbulkbjwiGreatFmt
open Go.RowKit
attribute [local go_sem] run_store_float

theorem keep_low (size samples : Int) (w : World) (h : size < 0) :
    Calls Ybaz.prog 4 #[.int .i64 size, .int .i64 samples] w fun e w' => e = .returned (.bool true) ∧ Below w.heap.size w w' := by
  go_enter Ybaz.func4, Ybaz.ntmps4
  go_wp2
  go_ret
  exact ⟨rfl, Below.refl _ _⟩

theorem keep_high (size samples : Int) (w : World) (h0 : 0 ≤ size) (h : 1048576 < size) :
    Calls Ybaz.prog 4 #[.int .i64 size, .int .i64 samples] w fun e w' => e = .returned (.bool true) ∧ Below w.heap.size w w' := by
  go_enter Ybaz.func4, Ybaz.ntmps4
  go_wp2
  go_ret
  exact ⟨rfl, Below.refl _ _⟩

set_option maxRecDepth 100000 in
set_option maxHeartbeats 2000000 in
theorem keep_mid (size samples : Int) (w : World) (h0 : 0 ≤ size) (h1 : size ≤ 1048576) :
    Calls Ybaz.prog 4 #[.int .i64 size, .int .i64 samples] w fun e w' => e = .returned (.bool true) ∧ Below w.heap.size w w' := by
  have e1 := fun (w : World) => Lib.run_eql_slice_nil (P := Ybaz.prog) w 24 _ none 0 0 0 0 Ybaz.underlying24
  have e2 := fun (w : World) (a : Option Addr) (n c : Nat) => run_neq_slice_nil_any (P := Ybaz.prog) w 26 _ a n c 0 0 Ybaz.underlying26
  go_enter Ybaz.func4, Ybaz.ntmps4
  go_wp2_with fail
  refine (mk_any size samples true w).mono ?_
  rintro e w1 ⟨rfl, hb1, hsz, hm⟩
  go_wp2_with fail
  refine (result_on w.heap.size size samples w1 h0 h1 (by omega) hm).mono ?_
  rintro e w2 ⟨⟨a, c, rfl⟩, hb2⟩
  have hs2 := hb2.size
  have hb := hb1.trans (hb2.mono (by omega))
  have r0 : w.heap.size ≤ w2.heap.size := by omega
  clear hm hb1 hb2 hsz hs2
  go_wp2_with (go_at_call 7; refine (isInf_yes _).mono ?_; rintro e w' ⟨rfl, rfl⟩)
  go_ret
  exact ⟨rfl, hb.alloc r0 _⟩

theorem keep_walk (size samples : Int) (w : World) :
    Calls Ybaz.prog 4 #[.int .i64 size, .int .i64 samples] w fun e w' => e = .returned (.bool true) ∧ Below w.heap.size w w' := by
  by_cases h : size < 0
  · exact keep_low size samples w h
  · by_cases h' : 1048576 < size
    · exact keep_high size samples w (by omega) h'
    · exact keep_mid size samples w (by omega) (by omega)

end Go.Proofs.YbulkbjwiGreatFmt
