/-
  THE LAW's MAPS AND ARRAYS IN MEMORY: one word for a map, one for a pair of arrays, and each operation's law in those words.
-/
import Derived.Test.YbulkbjzoFmtKeys
import Derived.Maps.OwnSet
import Derived.StringKeys
import Derived.Maps.StringElems
namespace Go.Proofs.YbulkbjzoFmt
open Go.RowKit Go.Maps Go.Sort

theorem law9 : Keyed Ybaf.prog 9 := string_keyed Ybaf.underlying9
theorem zero9 (w : World) : (zeroValue 9).run Ybaf.prog w = .ok (.string (BS [])) w := by kernel_rfl
theorem size_BS (l : List UInt8) : (BS l).size = l.length := by simp [BS, ByteArray.size]
theorem BS_eq {s : ByteArray} {l : List UInt8} (h : s.data.toList = l) : s = BS l := by
  subst h; simp [BS]

theorem KL_len (k : Nat) : (KL k).length ≤ 16 := by
  unfold KL; split <;> decide
theorem keyOf_KL (k : Nat) : keyOf Ybaf.prog 9 (.string (BS (KL k))) = some (.string (KL k)) := by
  have := WideMaps.keyOf_string_mk (P := Ybaf.prog) Ybaf.underlying9 (s := BS (KL k)) (by rw [size_BS]; have := KL_len k; unfold maxLen; omega)
  rwa [BS_list] at this

/-- BLOCK b IS A MAP OF AT MOST n ENTRIES that holds, of the table's keys, just those of p, each with its v. -/
def MapIs (w : World) (b n : Nat) (p : Nat → Bool) (v : Nat → List UInt8) : Prop :=
  ∃ D : DataW Unit, w.ownsMap Ybaf.prog 9 (plainElem Ybaf.prog 9) b n D ∧ Is D p v

theorem mapIs_made (w : World) : MapIs (w.alloc (.map #[] 0)) w.heap.size 0 (fun _ => false) (fun _ => []) := ⟨_, World.ownsMap_made w _ _ _, is_empty⟩

theorem MapIs.kept {w w' : World} {row : Option Nat} {b n : Nat} {p : Nat → Bool} {v : Nat → List UInt8} (h : MapIs w b n p v) (hg : w.grownBy w' row) (hne : some b ≠ row) : MapIs w' b n p v := by
  obtain ⟨D, h1, h2⟩ := h
  exact ⟨D, h1.kept hg hne, h2⟩
theorem MapIs.setCell {w : World} {b n : Nat} {p : Nat → Bool} {v : Nat → List UInt8} (h : MapIs w b n p v) {a : Addr} (ha : b ≠ a.block) (u : Value) : MapIs (w.setCell a u) b n p v := by
  obtain ⟨D, h1, h2⟩ := h
  exact ⟨D, h1.setCell ha u, h2⟩
theorem MapIs.alloc {w : World} {b n : Nat} {p : Nat → Bool} {v : Nat → List UInt8} (h : MapIs w b n p v) (o : Obj) : MapIs (w.alloc o) b n p v := by
  obtain ⟨D, h1, h2⟩ := h
  exact ⟨D, h1.alloc o, h2⟩
theorem MapIs.mono {w : World} {b n n' : Nat} {p : Nat → Bool} {v : Nat → List UInt8} (h : MapIs w b n p v) (hn : n ≤ n') : MapIs w b n' p v := by
  obtain ⟨D, h1, h2⟩ := h
  exact ⟨D, h1.mono hn, h2⟩
theorem MapIs.below {w w' : World} {B b n : Nat} {p : Nat → Bool} {v : Nat → List UInt8} (h : MapIs w b n p v) (hb : Below B w w') (hlt : b < B) : MapIs w' b n p v := by
  obtain ⟨D, ⟨es, clock, e1, e2⟩, h2⟩ := h
  exact ⟨D, ⟨es, clock, (hb.block b hlt).trans e1, e2⟩, h2⟩
theorem MapIs.lt {w : World} {b n : Nat} {p : Nat → Bool} {v : Nat → List UInt8} (h : MapIs w b n p v) : b < w.heap.size := by
  obtain ⟨D, h1, _⟩ := h
  exact h1.lt

/-- 'm[key]'. -/
theorem MapIs.look {w : World} {b n : Nat} {p : Nat → Bool} {v : Nat → List UInt8} (h : MapIs w b n p v) {k : Nat} (hk : k < 9) :
    (Instr.lookup 25 (.map (some b)) (.string (BS (KL k))) false).run Ybaf.prog w = .ok (.string (BS (v k))) w := by
  obtain ⟨D, h1, h2⟩ := h
  obtain ⟨x, ps, hrun, hx⟩ := h1.lookup law9 Ybaf.underlying25 (zero9 w) (zd := .lit (.string [])) (zp := []) (by simpa [BS_list] using plainElem_string (H := Unit) (P := Ybaf.prog) Ybaf.underlying9 (s := BS []) (by rw [size_BS]; decide)) (keyOf_KL k)
  rw [h2.val k hk] at hx
  obtain ⟨s, rfl, hz, _⟩ := plainElem_string_inv Ybaf.underlying9 hx
  have e : s.data.toList = v k := by simpa using (congrArg Prod.fst hz).symm
  rw [hrun, BS_eq e]
/-- 'v, ok := m[key]'. -/
theorem MapIs.lookOk {w : World} {b n : Nat} {p : Nat → Bool} {v : Nat → List UInt8} (h : MapIs w b n p v) {k : Nat} (hk : k < 9) :
    (Instr.lookup 25 (.map (some b)) (.string (BS (KL k))) true).run Ybaf.prog w = .ok (.tuple #[.string (BS (v k)), .bool (p k)]) w := by
  obtain ⟨D, h1, h2⟩ := h
  obtain ⟨x, ps, hrun, hx⟩ := h1.look_ok law9 Ybaf.underlying25 (zero9 w) (zd := .lit (.string [])) (zp := []) (by simpa [BS_list] using plainElem_string (H := Unit) (P := Ybaf.prog) Ybaf.underlying9 (s := BS []) (by rw [size_BS]; decide)) (keyOf_KL k)
  rw [h2.val k hk] at hx
  obtain ⟨s, rfl, hz, _⟩ := plainElem_string_inv Ybaf.underlying9 hx
  have e : s.data.toList = v k := by simpa using (congrArg Prod.fst hz).symm
  rw [hrun, BS_eq e, h2.has k hk]
/-- 'len(m)'. -/
theorem MapIs.len {w : World} {b n : Nat} {p : Nat → Bool} {v : Nat → List UInt8} (h : MapIs w b n p v) (ty : TypeId) :
    (Builtin.len_ #[25] ty #[.map (some b)]).run Ybaf.prog w = .ok (.int .i64 (cnt p 9)) w := by
  obtain ⟨D, h1, h2⟩ := h
  rw [h1.len Ybaf.underlying25 ty, h2.size (h1.tidy law9)]

section
variable (w : World) {ops : Array Oper} {rest : List Oper} {o : Oper} {a : Act} {Q : Exit → Act → World → Prop}
/-- 'm[key] = x', at the operation. -/
theorem wpList_put (hg : o.guard = none) (m x u : Operand) (hop : o.op = Op.mapUpdate 25 m x u) (b n : Nat) (p : Nat → Bool) (v : Nat → List UInt8) (k : Nat) (l : List UInt8)
    (hm : a.eval m = .map (some b)) (hown : MapIs w b n p v) (hn : n < 4096) (hk : k < 9) (hx : a.eval x = .string (BS (KL k))) (hu : a.eval u = .string (BS l)) (hl : l.length ≤ 4096)
    (hK : ∀ w', MapIs w' b (n + 1) (setP p k true) (setV v k l) → w.mapTurned w' b → wpList Ybaf.prog ops Q rest (a.put o.dst undef) w') :
    wpList Ybaf.prog ops Q (o :: rest) a w := by
  obtain ⟨D, h1, h2⟩ := hown
  refine wpList_mapUpdate_in w hg m x u 25 hop 9 9 law9 Ybaf.underlying25 _ b n D hm h1 (by unfold maxLen; omega) _ _ _ hx hu (keyOf_KL k) (.lit (.string l)) []
    (by simpa [BS_list] using plainElem_string (H := Unit) (P := Ybaf.prog) Ybaf.underlying9 (s := BS l) (by rw [size_BS]; unfold maxLen; omega)) ?_
  exact fun w' hown' ht => hK w' ⟨_, hown', h2.put hk l⟩ ht
/-- 'delete(m, key)', at the operation. -/
theorem wpList_del (hg : o.guard = none) (m x : Operand) (hop : o.op = Op.call { callee := Callee.builtin Builtin.delete, args := #[m, x], argTypes := #[25, 9] }) (b n : Nat) (p : Nat → Bool) (v : Nat → List UInt8) (k : Nat)
    (hm : a.eval m = .map (some b)) (hown : MapIs w b n p v) (hk : k < 9) (hx : a.eval x = .string (BS (KL k)))
    (hK : ∀ w', MapIs w' b n (setP p k false) (setV v k []) → w.mapTurned w' b → wpList Ybaf.prog ops Q rest (a.put o.dst (.tuple #[])) w') :
    wpList Ybaf.prog ops Q (o :: rest) a w := by
  obtain ⟨D, h1, h2⟩ := hown
  refine wpList_delete_own w hg m x 25 9 hop 9 law9 Ybaf.underlying25 _ b n D hm h1 _ _ hx (keyOf_KL k) ?_
  exact fun w' hown' ht => hK w' ⟨_, hown', h2.del hk⟩ ht
end

/-! ### the two arrays -/
/-- bp: nine bools; bv: nine strings. -/
def Arr (w : World) (bp bv : Nat) (p : Nat → Bool) (v : Nat → List UInt8) : Prop :=
  ∀ k, k < 9 → w.cell? ⟨bp, k, none⟩ = some (.bool (p k)) ∧ w.frozen? ⟨bp, k, none⟩ = false ∧ w.cell? ⟨bv, k, none⟩ = some (.string (BS (v k))) ∧ w.frozen? ⟨bv, k, none⟩ = false

theorem Arr.setP {w : World} {bp bv : Nat} {p : Nat → Bool} {v : Nat → List UInt8} (h : Arr w bp bv p v) (hne : bp ≠ bv) {k : Nat} (hk : k < 9) (x : Bool) : Arr (w.setCell ⟨bp, k, none⟩ (.bool x)) bp bv (YbulkbjzoFmt.setP p k x) v := by
  intro j hj
  obtain ⟨h1, h2, h3, h4⟩ := h j hj
  refine ⟨?_, by rw [World.frozen?_setCell]; exact h2, ?_, by rw [World.frozen?_setCell]; exact h4⟩
  · by_cases e : j = k
    · subst e
      rw [World.cell?_setCell_same _ _ _ h1]; simp [YbulkbjzoFmt.setP]
    · rw [World.cell?_setCell_other _ _ _ _ (by intro q; injection q with _ q2 _; exact e q2.symm), h1]; simp [YbulkbjzoFmt.setP, e]
  · rw [World.cell?_setCell_other _ _ _ _ (by intro q; injection q with q1 _ _; exact hne q1), h3]
theorem Arr.setV {w : World} {bp bv : Nat} {p : Nat → Bool} {v : Nat → List UInt8} (h : Arr w bp bv p v) (hne : bp ≠ bv) {k : Nat} (hk : k < 9) (x : List UInt8) : Arr (w.setCell ⟨bv, k, none⟩ (.string (BS x))) bp bv p (YbulkbjzoFmt.setV v k x) := by
  intro j hj
  obtain ⟨h1, h2, h3, h4⟩ := h j hj
  refine ⟨?_, by rw [World.frozen?_setCell]; exact h2, ?_, by rw [World.frozen?_setCell]; exact h4⟩
  · rw [World.cell?_setCell_other _ _ _ _ (by intro q; injection q with q1 _ _; exact hne q1.symm), h1]
  · by_cases e : j = k
    · subst e
      rw [World.cell?_setCell_same _ _ _ h3]; simp [YbulkbjzoFmt.setV]
    · rw [World.cell?_setCell_other _ _ _ _ (by intro q; injection q with _ q2 _; exact e q2.symm), h3]; simp [YbulkbjzoFmt.setV, e]
theorem Arr.setOther {w : World} {bp bv : Nat} {p : Nat → Bool} {v : Nat → List UInt8} (h : Arr w bp bv p v) {a : Addr} (h1 : bp ≠ a.block) (h2 : bv ≠ a.block) (u : Value) : Arr (w.setCell a u) bp bv p v := by
  intro j hj
  obtain ⟨g1, g2, g3, g4⟩ := h j hj
  refine ⟨?_, by rw [World.frozen?_setCell]; exact g2, ?_, by rw [World.frozen?_setCell]; exact g4⟩
  · rw [World.cell?_setCell_other _ _ _ _ (by intro q; subst q; exact h1 rfl), g1]
  · rw [World.cell?_setCell_other _ _ _ _ (by intro q; subst q; exact h2 rfl), g3]
theorem Arr.keeps {w w' : World} {bp bv : Nat} {p : Nat → Bool} {v : Nat → List UInt8} (h : Arr w bp bv p v) (h1 : w'.heap[bp]? = w.heap[bp]?) (h2 : w'.heap[bv]? = w.heap[bv]?) : Arr w' bp bv p v := by
  intro j hj
  obtain ⟨g1, g2, g3, g4⟩ := h j hj
  exact ⟨(World.cell?_of_block (a := ⟨bp, j, none⟩) h1).trans g1, (World.frozen?_of_block (a := ⟨bp, j, none⟩) h1).trans g2, (World.cell?_of_block (a := ⟨bv, j, none⟩) h2).trans g3, (World.frozen?_of_block (a := ⟨bv, j, none⟩) h2).trans g4⟩
theorem Arr.grown {w w' : World} {row : Option Nat} {bp bv : Nat} {p : Nat → Bool} {v : Nat → List UInt8} (h : Arr w bp bv p v) (hg : w.grownBy w' row) (h1 : bp < w.heap.size) (h2 : bv < w.heap.size) (n1 : some bp ≠ row) (n2 : some bv ≠ row) : Arr w' bp bv p v :=
  h.keeps (hg.block bp h1 n1) (hg.block bv h2 n2)
end Go.Proofs.YbulkbjzoFmt
