/-
  SEAT b3037aF: 'append(s, x)' of one slot on to a row of the law's own: the library's law, and besides: the row that comes back is the old one or a new one.
-/
import Derived.Test.YbulkbjwiFmtStop
namespace Go.Proofs.YbulkbjwiFmt
open Go.RowKit

/-- A row of slots that the law itself owns. -/
abbrev Own30 (w : World) (BB : Nat) (v : Value) (L : List Nat) : Prop := w.ownsRow BB 30 1 v L.length (L.map fun s : Nat => .int .u32 (s : Int))

theorem append_block (w : World) (BB : Nat) (v : Value) (L : List Nat) (hown : Own30 w BB v L) (ad : Addr) (c k ty : Nat) (hcell : w.cell? ad = some (.int .u32 (k : Int))) (hL : L.length ≤ 1000) :
    ∃ v' w', (Builtin.append_ #[24, 24] ty #[v, .slice (some ad) 1 c]).run Ybaf.prog w = .ok v' w' ∧ (v'.ownBlock = v.ownBlock ∨ v'.ownBlock = some w.heap.size) := by
  obtain ⟨i0, hi, hz0, hz1, hz2⟩ := info30
  have hl : [Value.int .u32 (k : Int)].length = 1 * i0.size := by rw [hz1]; rfl
  have hnews : ∀ j u, [Value.int .u32 (k : Int)][j]? = some u → w.cell? (ad.add j) = some u := by
    intro j u hj
    cases j with
    | zero => simp at hj; subst hj; simpa [Addr.add] using hcell
    | succ j => simp at hj
  have h1 : ∀ u ∈ [Value.int .u32 (k : Int)], u.oneCell' = true := by intro u hu; simp at hu; subst hu; rfl
  rcases hown.2 with ⟨rfl, h0⟩ | ⟨g, cap, cur, rfl, hbg, hg, hnc, hcm, hcs, htake⟩
  · have hr := run_append_nil (P := Ybaf.prog) w 24 ty 30 i0 _ Ybaf.underlying24 hi hz0 ad 1 c [.int .u32 (k : Int)] hl hnews (by omega) (by omega) (by rw [hz2]; omega)
    exact ⟨_, _, hr, .inr rfl⟩
  · by_cases hroom : L.length + 1 ≤ cap
    · have hfit : L.length * i0.size + [Value.int .u32 (k : Int)].length ≤ cur.size := by rw [hz1, hcs]; simp; omega
      have hr := run_append_room (P := Ybaf.prog) w 24 ty 30 i0 Ybaf.underlying24 hi g L.length cap cur hg ad 1 c [.int .u32 (k : Int)] hl hnews h1 hroom hfit
      exact ⟨_, _, hr, .inl rfl⟩
    · have holds := World.ownsRow.cells hown (g := g) rfl
      have hr := run_append_grow (P := Ybaf.prog) w 24 ty 30 i0 _ Ybaf.underlying24 hi hz0 ⟨g, 0, none⟩ L.length cap (L.map fun s : Nat => .int .u32 (s : Int)) (by rw [hz1]; simp) holds ad 1 c [.int .u32 (k : Int)] hl hnews (by omega) (by omega) (by rw [hz2]; exact growslice_fits (by omega) (by omega))
      exact ⟨_, _, hr, .inr rfl⟩

/-- The append, at the operation. -/
theorem push_wp {ops : Array Oper} {rest : List Oper} {o : Oper} {a : Act} {Q : Exit → Act → World → Prop} (w : World) (hgd : o.guard = none) (s x : Operand)
    (ho : o.op = .call { callee := .builtin .append, args := #[s, x], argTypes := #[24, 24] }) (BB : Nat) (v : Value) (L : List Nat) (hs : a.eval s = v) (hown : Own30 w BB v L)
    (ad : Addr) (c k : Nat) (hx : a.eval x = .slice (some ad) 1 c) (hcell : w.cell? ad = some (.int .u32 (k : Int))) (hL : L.length ≤ 1000) (hB : BB ≤ w.heap.size)
    (h : ∀ v' w', Own30 w' BB v' (L ++ [k]) → w.grownBy w' v.ownBlock → v' ≠ .slice none 0 0 → (v'.ownBlock = v.ownBlock ∨ v'.ownBlock = some w.heap.size) → wpList Ybaf.prog ops Q rest (a.put o.dst v') w') :
    wpList Ybaf.prog ops Q (o :: rest) a w := by
  obtain ⟨i0, hi, hz0, hz1, hz2⟩ := info30
  refine wpList_plain hgd fun _ hK => ?_
  obtain ⟨v', w', hr, h2, h3, h4⟩ := run_append_own (P := Ybaf.prog) w BB 24 o.type 30 i0 (.int .u32 0) 1 4 Ybaf.underlying24 hi hz0 hz1 hz2 rfl (by decide) v L.length _ hown ad 1 c [.int .u32 (k : Int)] rfl
    (fun j u hj => by
      cases j with
      | zero => simp at hj; subst hj; simpa [Addr.add] using hcell
      | succ j => simp at hj)
    (fun u hu => by simp at hu; subst hu; rfl) (by unfold maxLen; omega) (by omega) hB
  obtain ⟨v2, w2, hr2, h5⟩ := append_block w BB v L hown ad c k o.type hcell hL
  rw [hr] at hr2
  cases hr2
  unfold Oper.wp execOp
  simp only [ho, resolve, invoke, builtin, Sem.run_bind, Sem.run_pure, Result.andThen_ok, List.map_toArray, List.map_cons, List.map_nil, hs, hx, hr]
  refine hK _ _ (h v' w' ?_ h3 (fun e => by have := (h4.1 e).2; omega) h5)
  show w'.ownsRow BB 30 1 v' (L ++ [k]).length ((L ++ [k]).map fun s : Nat => .int .u32 (s : Int))
  simpa using h2
end Go.Proofs.YbulkbjwiFmt
