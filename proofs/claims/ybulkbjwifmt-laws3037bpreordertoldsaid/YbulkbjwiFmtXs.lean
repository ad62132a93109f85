/-
  SEAT b3037aF: the bytes that came in, as the walks are told of them.
-/
import Derived.Test.YbulkbjwiFmtBuild
import Derived.ProofKit
import Derived.OpenShut
import Derived.ChangeOld
import Derived.Deep.Slices
namespace Go.Proofs.YbulkbjwiFmt
open Go.ChangeShapes Go.WideShapes Go.ChangeAt Go.RowKit

theorem cells73 : Ybaf.prog.cellsOf 73 = 1 := by kernel_rfl
theorem xs_of {H : Type} {enc : TypeId × Value → H} {W : World} {spare : Nat → Bool} {held : Bool} {fuel : Nat} {a : Option Addr} {len cap : Nat} {x : DataW H × List MemPlace}
    (h : DataW.trod enc Ybaf.prog W 0 spare held fuel 22 [.slice a len cap] = some x) : Xs W a len := by
  rcases Deep.open_slice1 Ybaf.underlying22 cells73 h with ⟨hcs, _⟩ | ⟨y, l, c, m, n, V, D, Pl, hcs, _, hl, hm, hmm, _, hel⟩
  · simp at hcs
    obtain ⟨rfl, rfl, rfl⟩ := hcs
    exact fun i hi => absurd hi (Nat.not_lt_zero _)
  · simp at hcs
    obtain ⟨rfl, rfl, rfl⟩ := hcs
    have hlm : len ≤ m := by rw [hmm]; split <;> omega
    intro i hi
    obtain ⟨e1, e2⟩ := hel i (by omega)
    obtain ⟨z, hz, _, hw⟩ := DataW.trod_int Ybaf.underlying73 e2
    simp at hz
    simp [Lit.wf, IntKind.min, IntKind.max, IntKind.bits, IntKind.signed] at hw
    obtain ⟨f1, _⟩ := hel 0 (by omega)
    obtain ⟨b, off, spot⟩ := y
    have hspot : spot = none := by simpa [Addr.add] using World.cell?_spot f1
    subst hspot
    have hbB : b < W.heap.size := by simpa [Addr.add] using World.block_lt_of_cell? _ _ f1
    refine ⟨b, off, z, rfl, hbB, ?_, hw.1, hw.2⟩
    rw [hz] at e1
    by_cases hi0 : i = 0
    · subst hi0; simpa [Addr.add] using e1
    · simpa [Addr.add, hi0] using e1
end Go.Proofs.YbulkbjwiFmt
