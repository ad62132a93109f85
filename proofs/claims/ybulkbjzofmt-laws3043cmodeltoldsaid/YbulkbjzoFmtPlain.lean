/-
  THE PLAIN LAW: the keys' table, the model that the law runs, and what a map's datum holds. No program's text in sight.
-/
import Derived.Maps.OwnSet
import Derived.Sort.KeysCollected
namespace Go.Proofs.YbulkbjzoFmt
open Go Go.Maps Go.Sort

/-- The keys' table, as bytes. -/
def KL : Nat → List UInt8
  | 0 => [71, 78, 85, 46, 115, 112, 97, 114, 115, 101, 46, 109, 97, 106, 111, 114]
  | 1 => [97]
  | 2 => [98]
  | 3 => [99]
  | 4 => [108, 105, 110, 107, 112, 97, 116, 104]
  | 5 => [109, 116, 105, 109, 101]
  | 6 => [112, 97, 116, 104]
  | 7 => [115, 105, 122, 101]
  | _ => [117, 110, 97, 109, 101]
/-- The values' table. -/
def VL : Nat → List UInt8
  | 0 => []
  | 1 => [120]
  | _ => [121]
/-- The keys that are refused. -/
def forb (k : Nat) : Bool := k == 0 || k == 4 || k == 6 || k == 7

theorem KL_lt : ∀ i, i < 9 → ∀ j, j < 9 → i < j → KL i < KL j := by decide +kernel
theorem KL_inj {i j : Nat} (hi : i < 9) (hj : j < 9) (h : KL i = KL j) : i = j := by
  rcases Nat.lt_trichotomy i j with g | g | g
  · exact absurd h (by have := KL_lt i hi j hj g; intro e; rw [e] at this; exact absurd this (List.lt_irrefl _))
  · exact g
  · exact absurd h (by have := KL_lt j hj i hi g; intro e; rw [e] at this; exact absurd this (List.lt_irrefl _))

/-! ### The state: which keys are there, and what each holds -/
def setP (p : Nat → Bool) (k : Nat) (b : Bool) : Nat → Bool := fun j => if j = k then b else p j
def setV (v : Nat → List UInt8) (k : Nat) (x : List UInt8) : Nat → List UInt8 := fun j => if j = k then x else v j

def stepP (vr : Nat → List UInt8) (k : Nat) (p : Nat → Bool) : Nat → Bool := setP p k !(vr k).isEmpty
def stepV (vr : Nat → List UInt8) (k : Nat) (v : Nat → List UInt8) : Nat → List UInt8 := setV v k (vr k)

/-- What a run over the keys ks leaves, and whether it met a refused one. -/
def runK (vr : Nat → List UInt8) : List Nat → (Nat → Bool) → (Nat → List UInt8) → (Nat → Bool) × (Nat → List UInt8) × Bool
  | [], p, v => (p, v, false)
  | k :: ks, p, v => if forb k then (p, v, true) else runK vr ks (stepP vr k p) (stepV vr k v)

/-- The keys from j on that are there. -/
def from_ (pr : Nat → Bool) (j : Nat) : List Nat := (List.range' j (9 - j)).filter pr

theorem from_skip {pr : Nat → Bool} {j : Nat} (hj : j < 9) (h : pr j = false) : from_ pr j = from_ pr (j + 1) := by
  unfold from_
  rw [show 9 - j = (9 - (j + 1)) + 1 from by omega, List.range'_succ, List.filter_cons, if_neg (by rw [h]; decide)]
theorem from_take {pr : Nat → Bool} {j : Nat} (hj : j < 9) (h : pr j = true) : from_ pr j = j :: from_ pr (j + 1) := by
  unfold from_
  rw [show 9 - j = (9 - (j + 1)) + 1 from by omega, List.range'_succ, List.filter_cons, if_pos h]
theorem from_end (pr : Nat → Bool) : from_ pr 9 = [] := rfl

/-- How many of the first j are there. -/
def cnt (p : Nat → Bool) (j : Nat) : Nat := ((List.range j).filter p).length
theorem cnt_succ (p : Nat → Bool) (j : Nat) : cnt p (j + 1) = cnt p j + if p j then 1 else 0 := by
  unfold cnt
  rw [List.range_succ, List.filter_append, List.length_append]
  cases h : p j <;> simp [h]
theorem cnt_le (p : Nat → Bool) (j : Nat) : cnt p j ≤ j := by
  have := List.length_filter_le p (List.range j)
  simpa [cnt] using this

/-! ### What a map's datum holds -/
structure Is (D : DataW Unit) (p : Nat → Bool) (v : Nat → List UInt8) : Prop where
  has : ∀ k, k < 9 → Maps.has D (.string (KL k)) = p k
  val : ∀ k, k < 9 → D.atKey (.string (KL k)) (.lit (.string [])) = .lit (.string (v k))
  only : ∃ es, D = .map es ∧ ∀ q ∈ es, ∃ k, k < 9 ∧ q.1 = .string (KL k)

theorem is_empty : Is (.map []) (fun _ => false) (fun _ => []) :=
  ⟨fun _ _ => rfl, fun _ _ => rfl, [], rfl, fun _ h => by cases h⟩

theorem mem_insert (x q : Lit × DataW Unit) : ∀ l : List (Lit × DataW Unit), q ∈ DataW.insert x l → q = x ∨ q ∈ l
  | [], h => by simp [DataW.insert] at h; exact Or.inl h
  | y :: r, h => by
    unfold DataW.insert at h
    split at h
    · simp at h ⊢; exact h
    · simp at h ⊢
      rcases h with h | h
      · exact Or.inr (Or.inl h)
      · rcases mem_insert x q r h with g | g
        · exact Or.inl g
        · exact Or.inr (Or.inr g)

theorem Is.put {D : DataW Unit} {p : Nat → Bool} {v : Nat → List UInt8} (h : Is D p v) {k : Nat} (hk : k < 9) (x : List UInt8) :
    Is (D.put (.string (KL k)) (.lit (.string x))) (setP p k true) (setV v k x) := by
  obtain ⟨es, rfl, he⟩ := h.only
  have hD : IsMap (.map es : DataW Unit) := ⟨es, rfl⟩
  refine ⟨fun j hj => ?_, fun j hj => ?_, _, rfl, fun q hq => ?_⟩
  · by_cases e : j = k
    · subst e; rw [has_put_same hD (k := .string (KL j)) (show WideAt.IsKeyLit (.string (KL j)) from trivial)]; simp [setP]
    · rw [has_put_other (fun q => e (KL_inj hj hk (by simpa using q))), h.has j hj]; simp [setP, e]
  · by_cases e : j = k
    · subst e; rw [atKey_put_same hD (k := .string (KL j)) (show WideAt.IsKeyLit (.string (KL j)) from trivial)]; simp [setV]
    · rw [atKey_put_other (fun q => e (KL_inj hj hk (by simpa using q))), h.val j hj]; simp [setV, e]
  · rcases mem_insert _ _ _ hq with rfl | g
    · exact ⟨k, hk, rfl⟩
    · exact he q (List.mem_filter.1 g).1

theorem Is.del {D : DataW Unit} {p : Nat → Bool} {v : Nat → List UInt8} (h : Is D p v) {k : Nat} (hk : k < 9) :
    Is (D.del (.string (KL k))) (setP p k false) (setV v k []) := by
  obtain ⟨es, rfl, he⟩ := h.only
  refine ⟨fun j hj => ?_, fun j hj => ?_, _, rfl, fun q hq => ?_⟩
  · by_cases e : j = k
    · subst e; rw [has_del_same]; simp [setP]
    · rw [has_del_other (fun q => e (KL_inj hj hk (by simpa using q))), h.has j hj]; simp [setP, e]
  · by_cases e : j = k
    · subst e; rw [atKey_del_same]; simp [setV]
    · rw [atKey_del_other (fun q => e (KL_inj hj hk (by simpa using q))), h.val j hj]; simp [setV, e]
  · exact he q (List.mem_filter.1 hq).1

theorem nodup_from (p : Nat → Bool) : ((from_ p 0).map KL).Nodup := by
  have hs : (from_ p 0).Pairwise (fun i j => i < j) := (List.pairwise_lt_range' (s := 0) (n := 9)).filter p
  have hm : ∀ i ∈ from_ p 0, i < 9 := by intro i hi; have := (List.mem_filter.1 hi).1; simp [List.mem_range'] at this; omega
  rw [List.Nodup, List.pairwise_map]
  refine hs.imp_of_mem (fun hi hj hlt e => ?_)
  have := KL_inj (hm _ hi) (hm _ hj) e
  omega

theorem Is.keys {D : DataW Unit} {p : Nat → Bool} {v : Nat → List UInt8} (h : Is D p v) (hT : Tidy D) : (strKeys D).Perm ((from_ p 0).map KL) := by
  obtain ⟨es, rfl, he⟩ := h.only
  obtain ⟨es', e, hp⟩ := hT
  cases e
  have hn : (strKeys (.map es : DataW Unit)).Nodup := by
    show (es.map fun q => strOf q.1).Nodup
    rw [List.Nodup, List.pairwise_map]
    refine hp.imp_of_mem (fun {a b} ha hb hne e => hne ?_)
    obtain ⟨i, _, hi⟩ := he a ha
    obtain ⟨j, _, hj⟩ := he b hb
    rw [hi, hj] at e ⊢
    simpa [strOf] using e
  refine (List.perm_ext_iff_of_nodup hn (nodup_from p)).2 (fun x => ?_)
  constructor
  · intro hx
    obtain ⟨q, hq, rfl⟩ := List.mem_map.1 hx
    obtain ⟨k, hk, e⟩ := he q hq
    have hpk : p k = true := by
      rw [← h.has k hk, has_eq, List.any_eq_true]
      exact ⟨q, hq, by rw [e]; simp [Lit.sameKey]⟩
    rw [e]
    exact List.mem_map.2 ⟨k, List.mem_filter.2 ⟨by simp [List.mem_range']; omega, hpk⟩, rfl⟩
  · intro hx
    obtain ⟨k, hk, rfl⟩ := List.mem_map.1 hx
    obtain ⟨hk1, hpk⟩ := List.mem_filter.1 hk
    have hk9 : k < 9 := by simp [List.mem_range'] at hk1; omega
    rw [← h.has k hk9, has_eq, List.any_eq_true] at hpk
    obtain ⟨q, hq, e⟩ := hpk
    exact List.mem_map.2 ⟨q, hq, by rw [WideAt.sameKey_eq e]; rfl⟩

/-- THE KEYS, SORTED. -/
theorem Is.sorted {D : DataW Unit} {p : Nat → Bool} {v : Nat → List UInt8} (h : Is D p v) (hT : Tidy D) {ss : List (List UInt8)} (hs : ss.Perm (strKeys D)) :
    ss.mergeSort (fun x y => decide (x ≤ y)) = (from_ p 0).map KL := by
  rw [show ss.mergeSort (fun x y => decide (x ≤ y)) = ((from_ p 0).map KL).mergeSort (fun x y => decide (x ≤ y)) from mergeSort_of_perm (hs.trans (h.keys hT))]
  refine List.mergeSort_of_pairwise ?_
  have hs : (from_ p 0).Pairwise (fun i j => i < j) := (List.pairwise_lt_range' (s := 0) (n := 9)).filter p
  have hm : ∀ i ∈ from_ p 0, i < 9 := by intro i hi; have := (List.mem_filter.1 hi).1; simp [List.mem_range'] at this; omega
  rw [List.pairwise_map]
  refine hs.imp_of_mem (fun hi hj hlt => ?_)
  exact decide_eq_true (List.le_of_lt (KL_lt _ (hm _ hi) _ (hm _ hj) hlt))

/-- HOW MANY ENTRIES. -/
theorem Is.size {D : DataW Unit} {p : Nat → Bool} {v : Nat → List UInt8} (h : Is D p v) (hT : Tidy D) : Maps.size D = cnt p 9 := by
  have e := (h.keys hT).length_eq
  obtain ⟨es, rfl, _⟩ := h.only
  have e1 : Maps.size (.map es : DataW Unit) = (strKeys (.map es : DataW Unit)).length := by simp [Maps.size, strKeys]
  rw [e1, e, List.length_map]
  unfold from_ cnt
  rw [show List.range' 0 (9 - 0) = List.range 9 from by decide]
end Go.Proofs.YbulkbjzoFmt
