/-
  SEAT b3037aF: which of the slots have been met: the row of marks, and the plain law on it.
-/
import Derived.Test.YbulkbjwiFmtPush
namespace Go.Proofs.YbulkbjwiFmt
open Go.RowKit

/-- The row of marks. -/
structure Seen (w : World) (SE n : Nat) (P : Nat → Bool) : Prop where
  cell : ∀ k, k < n → w.cell? ⟨SE, k, none⟩ = some (.bool (P k))
  froz : ∀ k, k < n → w.frozen? ⟨SE, k, none⟩ = false

theorem seen_new (n BB : Nat) (w4 w5 : World) (hn : n ≤ 1000) (hBB : BB ≤ w5.heap.size) (hB : Below BB w4 w5) :
    ∃ w6 SE, (Instr.makeSlice 63 (.int .i64 n) (.int .i64 n)).run Ybaf.prog w5 = .ok (.slice (some ⟨SE, 0, none⟩) n n) w6 ∧ BB ≤ SE ∧ Below BB w4 w6 ∧ Seen w6 SE n (fun _ => false) := by
  obtain ⟨row, h1, h2, h3⟩ := made63 n hn
  exact ⟨_, _, h1 w5, hBB, hB.alloc hBB _, ⟨fun k hk => cellNew _ _ _ _ _ (h3 k (by omega)), fun k hk => frozNew _ _ _ _⟩⟩

theorem Seen.set {w : World} {SE n : Nat} {P : Nat → Bool} (h : Seen w SE n P) {i0 : Nat} (hi : i0 < n) : Seen (w.setCell ⟨SE, i0, none⟩ (.bool true)) SE n (fun k => if k = i0 then true else P k) := by
  refine ⟨fun k hk => ?_, fun k hk => by rw [World.frozen?_setCell]; exact h.froz k hk⟩
  by_cases e : k = i0
  · subst e
    rw [if_pos rfl]
    exact World.cell?_setCell_same _ _ _ (h.cell k hk)
  · rw [if_neg e, World.cell?_setCell_other _ _ _ _ (by intro q; injection q with _ q1; omega)]
    exact h.cell k hk
theorem Seen.same {w : World} {SE n : Nat} {P Q : Nat → Bool} (h : Seen w SE n P) (e : ∀ k, k < n → P k = Q k) : Seen w SE n Q := ⟨fun k hk => by rw [h.cell k hk, e k hk], h.froz⟩

/-- The k-th slot is among the first j of L. -/
def met (L : List Nat) (bb ss j k : Nat) : Bool := decide (bb + k * ss ∈ L.take j)
theorem met_zero (L : List Nat) (bb ss k : Nat) : met L bb ss 0 k = false := by simp [met]
theorem take_next {L : List Nat} {j : Nat} (hj : j < L.length) : L.take (j + 1) = L.take j ++ [L.getD j 0] := by
  rw [List.take_add_one]
  simp [List.getD, hj]
theorem met_step {L : List Nat} {bb ss j i0 : Nat} (hj : j < L.length) (hss : 0 < ss) (e : L.getD j 0 = bb + i0 * ss) (k : Nat) : met L bb ss (j + 1) k = if k = i0 then true else met L bb ss j k := by
  unfold met
  rw [take_next hj, e]
  by_cases q : k = i0
  · subst q; simp
  · have hne : bb + k * ss ≠ bb + i0 * ss := by
      intro h
      exact q (Nat.eq_of_mul_eq_mul_right hss (by omega))
    have hne2 : ¬ (k * ss = i0 * ss) := by omega
    simp [q, hne2]
theorem met_not {L : List Nat} {bb ss j i0 : Nat} (hnd : L.Nodup) (hj : j < L.length) (e : L.getD j 0 = bb + i0 * ss) : met L bb ss j i0 = false := by
  unfold met
  rw [← e]
  have h1 : (L.take (j + 1)).Nodup := hnd.sublist (List.take_sublist _ _)
  rw [take_next hj, List.nodup_append] at h1
  simp only [decide_eq_false_iff_not]
  intro hm
  exact h1.2.2 _ hm _ (by simp) rfl
theorem slot_at {L : List Nat} {n bb ss j : Nat} (hperm : L.Perm ((List.range n).map fun k => bb + k * ss)) (hj : j < L.length) : ∃ i0, i0 < n ∧ L.getD j 0 = bb + i0 * ss := by
  have h1 : L.getD j 0 ∈ L := by
    simp [List.getD, hj]
  have h2 := hperm.mem_iff.1 h1
  simp only [List.mem_map, List.mem_range] at h2
  obtain ⟨i0, h3, h4⟩ := h2
  exact ⟨i0, h3, h4.symm⟩
/-- The cells of a row that the law owns. -/
theorem Own30.row {w : World} {BB : Nat} {av : Option Addr} {n cv : Nat} {L : List Nat} (h : Own30 w BB (.slice av n cv) L) (hl : L.length = n) (hn : 0 < n) : ∃ g, av = some ⟨g, 0, none⟩ ∧ ∀ j, j < n → w.cell? ⟨g, j, none⟩ = some (.int .u32 ((L.getD j 0 : Nat) : Int)) := by
  obtain ⟨g, cap, e, hg, hcap, hsh, hcl, _⟩ := owns_cells h (by intro q; cases q; omega)
  cases e
  refine ⟨g, rfl, fun j hj => ?_⟩
  rw [hcl j (by omega)]
  simp [List.getD, show j < L.length by omega]
end Go.Proofs.YbulkbjwiFmt
