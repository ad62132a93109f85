/-
  SEAT b3037aF: slices.Clone at []float64 and at []Axis (after the shelf's own walk at []int).
-/
import Derived.Test.YbulkbjwiFmtCheck
import Derived.Lib.Walk
import Derived.Lib.SliceRun
import Derived.Laws.AppendOwn
import Derived.OwnWalk
namespace Go.Proofs.YbulkbjwiFmt
open Go.RowKit Go.Lib

/-- The list of the cells of a row. -/
theorem cells_list (w : World) (b : Nat) : ∀ (n : Nat) (f : Nat → Value), (∀ j, j < n → w.cell? ⟨b, j, none⟩ = some (f j)) → ∀ j u, ((List.range n).map f)[j]? = some u → j < n ∧ w.cell? ⟨b, j, none⟩ = some u := by
  intro n f h j u hj
  have hjn : j < n := by
    have := (List.getElem?_eq_some_iff.1 hj).1
    simpa using this
  refine ⟨hjn, ?_⟩
  simp [hjn] at hj
  rw [h j hjn, hj]

theorem info58 : ∃ i, Ybaf.prog.info? 58 = some i ∧ i.zero = some (.float .f64 0) ∧ i.size = 1 ∧ i.bytes = 8 :=
  info_parts (by kernel_rfl)
theorem info94 : ∃ i, Ybaf.prog.info? 94 = some i ∧ i.zero = some (.agg #[.float .f64 0, .float .f64 0, .float .f64 0]) ∧ i.size = 3 ∧ i.bytes = 24 :=
  info_parts (by kernel_rfl)
theorem info30 : ∃ i, Ybaf.prog.info? 30 = some i ∧ i.zero = some (.int .u32 0) ∧ i.size = 1 ∧ i.bytes = 4 :=
  info_parts (by kernel_rfl)

/-- What a row that a call owns is, cell by cell. -/
theorem owns_cells {w : World} {base e size n : Nat} {v : Value} {xs : List Value} (h : w.ownsRow base e size v n xs) (hnn : v ≠ .slice none 0 0) :
    ∃ g cap, v = .slice (some ⟨g, 0, none⟩) n cap ∧ base ≤ g ∧ n ≤ cap ∧ w.shape? g = some (e, cap * size) ∧ (∀ j, j < n * size → w.cell? ⟨g, j, none⟩ = xs[j]?) ∧ (∀ j, w.frozen? ⟨g, j, none⟩ = false) := by
  obtain ⟨hl, ⟨rfl, _⟩ | ⟨g, cap, cur, rfl, hb, hc, hn, hm, hs, ht⟩⟩ := h
  · exact absurd rfl hnn
  refine ⟨g, cap, rfl, hb, hn, ?_, ?_, ?_⟩
  · unfold World.shape?; rw [hc]; simp [hs]
  · intro j hj
    rw [← ht, List.getElem?_take_of_lt hj]
    unfold World.cell?; simp only [hc]; simp
  · intro j
    unfold World.frozen?; simp only [hc]; simp

set_option maxRecDepth 100000 in
set_option maxHeartbeats 2000000 in
theorem clone_float (b n c : Nat) (f : Nat → Value) (w : World) (hn : n ≤ 16) (hf1 : ∀ j, (f j).oneCell' = true) (hc : ∀ j, j < n → w.cell? ⟨b, j, none⟩ = some (f j)) :
    Calls Ybaf.prog 27 #[.slice (some ⟨b, 0, none⟩) n c] w fun e w' => ∃ g cap m, e = .returned (.slice (some ⟨g, 0, none⟩) n cap) ∧ n ≤ cap ∧ w.heap.size ≤ g ∧ w'.shape? g = some (58, m) ∧ (∀ j, j < n → w'.cell? ⟨g, j, none⟩ = some (f j)) ∧ Below w.heap.size w w' := by
  obtain ⟨i0, hi, hz0, hz1, hz2⟩ := info58
  have q22 : ∀ (w : World) (a : Option Addr) (n c n' c' : Nat), (binOp .eql 72 (.slice a n c) (.slice none n' c')).run Ybaf.prog w = .ok (.bool a.isNone) w := fun w a n c n' c' => Lib.run_eql_slice_nil w _ _ a n c n' c' Ybaf.underlying72
  have A : Hid (∀ j, j < n → w.cell? ⟨b, j, none⟩ = some (f j)) := hc
  clear hc
  go_enter Ybaf.func27, Ybaf.ntmps27
  go_wp2_with (at_builtin; refine wpList_append_own _ rfl _ _ 72 rfl w.heap.size 58 i0 (.float .f64 0) 1 8 Ybaf.underlying72 hi hz0 hz1 hz2 rfl (by decide) _ _ _ rfl (World.ownsRow_made w #[] 0 (Nat.le_refl _) (Nat.zero_le _) rfl) ⟨b, 0, none⟩ n c ((List.range n).map f) rfl ?qc1 ?qc2 ?qc3 ?qc4 ?qc5 ?qc6 ?_)
  case qc1 => simp
  case qc2 =>
    intro j u hj
    have := cells_list w b n f A.out j u hj
    rw [Addr.add_lit]
    refine Lib.cell?_alloc_some _ ?_
    simpa using this.2
  case qc3 => intro u hu; obtain ⟨x, _, rfl⟩ := List.mem_map.1 hu; exact hf1 x
  case qc4 => unfold maxLen; omega
  case qc5 => omega
  case qc6 => simp
  intro v' w1 hown hgrow hnil
  go_wp2
  go_ret
  have hb : Below w.heap.size w w1 := ((Below.refl _ w).alloc (Nat.le_refl _) _).grown hgrow (by simp) (by intro k hk; simp [Value.ownBlock] at hk; omega)
  obtain ⟨g, cap, rfl, hg, hcap, hsh, hcl, _⟩ := owns_cells hown (by simpa using hnil)
  refine ⟨g, cap, _, by simp, by omega, hg, hsh, fun j hj => ?_, hb⟩
  rw [hcl j (by omega)]
  simp [hj]

set_option maxRecDepth 100000 in
set_option maxHeartbeats 2000000 in
theorem clone_axes (b n c : Nat) (w : World) (hn : n ≤ 3) (hn0 : 0 < n) (hc : ∀ j, j < n * 3 → w.cell? ⟨b, j, none⟩ = some (.float .f64 0)) :
    Calls Ybaf.prog 24 #[.slice (some ⟨b, 0, none⟩) n c] w fun e w' => ∃ g cap, e = .returned (.slice (some ⟨g, 0, none⟩) n cap) ∧ w.heap.size ≤ g ∧ (∃ m, w'.shape? g = some (94, m)) ∧ (∀ j, j < n * 3 → w'.cell? ⟨g, j, none⟩ = some (.float .f64 0)) ∧ Below w.heap.size w w' := by
  obtain ⟨i0, hi, hz0, hz1, hz2⟩ := info94
  have q22 : ∀ (w : World) (a : Option Addr) (n c n' c' : Nat), (binOp .eql 32 (.slice a n c) (.slice none n' c')).run Ybaf.prog w = .ok (.bool a.isNone) w := fun w a n c n' c' => Lib.run_eql_slice_nil w _ _ a n c n' c' Ybaf.underlying32
  have A : Hid (∀ j, j < n * 3 → w.cell? ⟨b, j, none⟩ = some (.float .f64 0)) := hc
  clear hc
  go_enter Ybaf.func24, Ybaf.ntmps24
  go_wp2_with (at_builtin; refine wpList_append_own _ rfl _ _ 32 rfl w.heap.size 94 i0 (.agg #[.float .f64 0, .float .f64 0, .float .f64 0]) 3 24 Ybaf.underlying32 hi hz0 hz1 hz2 rfl (by decide) _ _ _ rfl (World.ownsRow_made w #[] 0 (Nat.le_refl _) (Nat.zero_le _) rfl) ⟨b, 0, none⟩ n c ((List.range (n * 3)).map fun _ => .float .f64 0) rfl ?qc1 ?qc2 ?qc3 ?qc4 ?qc5 ?qc6 ?_)
  case qc1 => simp
  case qc2 =>
    intro j u hj
    have := cells_list w b (n * 3) _ A.out j u hj
    rw [Addr.add_lit]
    refine Lib.cell?_alloc_some _ ?_
    simpa using this.2
  case qc3 => intro u hu; obtain ⟨x, _, rfl⟩ := List.mem_map.1 hu; rfl
  case qc4 => unfold maxLen; omega
  case qc5 => omega
  case qc6 => simp
  intro v' w1 hown hgrow hnil
  go_wp2
  go_ret
  have hb : Below w.heap.size w w1 := ((Below.refl _ w).alloc (Nat.le_refl _) _).grown hgrow (by simp) (by intro k hk; simp [Value.ownBlock] at hk; omega)
  obtain ⟨g, cap, rfl, hg, hcap, hsh, hcl, _⟩ := owns_cells hown (by simpa using hnil)
  refine ⟨g, cap, by simp, hg, ⟨_, hsh⟩, fun j hj => ?_, hb⟩
  rw [hcl j (by omega)]
  simp [hj]
end Go.Proofs.YbulkbjwiFmt
