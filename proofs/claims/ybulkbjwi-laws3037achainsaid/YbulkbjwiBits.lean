/-
  THE BITS OF A LINK's WORD: plain facts on Go's '&^', '|', '&' with the sign bit of a uint64, as the walk spells them ('bits'). No program's text in sight.
-/
import Derived.Laws.BitsAllLaws
namespace Go.Proofs.Ybulkbjwi
open Go

/-- The bits without the sign. -/
def low (x : Int) : Int := x % 9223372036854775808

theorem low_range (x : Int) : 0 ≤ low x ∧ low x < 9223372036854775808 := by unfold low; omega
theorem low_low (x : Int) : low (low x) = low x := by unfold low; omega
theorem low_small (x : Int) (h0 : 0 ≤ x) (h : x < 9223372036854775808) : low x = x := by unfold low; omega
theorem low_great (x : Int) (h0 : 9223372036854775808 ≤ x) (h : x < 18446744073709551616) : low x + 9223372036854775808 = x := by unfold low; omega

theorem nat_low (x : Nat) : x &&& 9223372036854775807 = x % 9223372036854775808 := by
  have := Nat.and_two_pow_sub_one_eq_mod x 63
  simpa using this

theorem nat_top (x : Nat) : x &&& 9223372036854775808 = x / 9223372036854775808 % 2 * 9223372036854775808 := by
  apply Nat.eq_of_testBit_eq
  intro i
  rw [Nat.testBit_and, show (9223372036854775808 : Nat) = 2 ^ 63 from by decide, Nat.testBit_two_pow]
  rcases Nat.mod_two_eq_zero_or_one (x / 2 ^ 63) with h | h
  · rw [h]
    by_cases e : 63 = i
    · subst e; simp [Nat.testBit_eq_decide_div_mod_eq, h]
    · simp [e]
  · rw [h, Nat.one_mul, Nat.testBit_two_pow]
    by_cases e : 63 = i
    · subst e; simp [Nat.testBit_eq_decide_div_mod_eq, h]
    · simp [e]

theorem nat_or_top (x : Nat) (h : x < 18446744073709551616) : x ||| 9223372036854775808 = x % 9223372036854775808 + 9223372036854775808 := by
  have e1 : x % 9223372036854775808 + 9223372036854775808 = 2 ^ 63 * 1 + x % 2 ^ 63 := by
    rw [show (2 : Nat) ^ 63 = 9223372036854775808 from by decide]; omega
  rw [e1]
  apply Nat.eq_of_testBit_eq
  intro i
  rw [Nat.testBit_or, show (9223372036854775808 : Nat) = 2 ^ 63 from by decide, Nat.testBit_two_pow, Nat.testBit_two_pow_mul_add 1 (Nat.mod_lt _ (by decide)) i]
  by_cases e : i < 63
  · have e' : ¬ 63 = i := by omega
    rw [if_pos e, Nat.testBit_mod_two_pow]
    simp [e, e']
  · rw [if_neg e]
    by_cases e' : 63 = i
    · subst e'; simp
    · have hb : x.testBit i = false := by
        apply Nat.testBit_lt_two_pow
        calc x < 2 ^ 64 := by rw [show (2 : Nat) ^ 64 = 18446744073709551616 from by decide]; exact h
          _ ≤ 2 ^ i := Nat.pow_le_pow_right (by decide) (by omega)
      have h1 : Nat.testBit 1 (i - 63) = false := by
        obtain ⟨j, hj⟩ : ∃ j, i - 63 = j + 1 := ⟨i - 64, by omega⟩
        rw [hj]; simp [Nat.testBit_succ]
      simp [hb, h1, e']

theorem bits_low (x : Int) (h0 : 0 ≤ x) (h1 : x < 18446744073709551616) : bits .andNot .u64 x 9223372036854775808 = low x := by
  obtain ⟨n, rfl⟩ := Int.eq_ofNat_of_zero_le h0
  have := u64_andNot_nat n 9223372036854775808 (by omega) (by omega)
  rw [show ((9223372036854775808 : Nat) : Int) = 9223372036854775808 from rfl] at this
  rw [this, nat_low n]
  unfold low; omega

theorem bits_top (x : Int) (h0 : 0 ≤ x) (h1 : x < 18446744073709551616) : bits .and .u64 x 9223372036854775808 = if x < 9223372036854775808 then 0 else 9223372036854775808 := by
  obtain ⟨n, rfl⟩ := Int.eq_ofNat_of_zero_le h0
  have := u64_and_nat n 9223372036854775808 (by omega) (by omega)
  rw [show ((9223372036854775808 : Nat) : Int) = 9223372036854775808 from rfl] at this
  rw [this, nat_top]
  split <;> omega

theorem bits_or_top (x : Int) (h0 : 0 ≤ x) (h1 : x < 18446744073709551616) : bits .or .u64 x 9223372036854775808 = low x + 9223372036854775808 := by
  obtain ⟨n, rfl⟩ := Int.eq_ofNat_of_zero_le h0
  have := u64_or_nat n 9223372036854775808 (by omega) (by omega)
  rw [show ((9223372036854775808 : Nat) : Int) = 9223372036854775808 from rfl] at this
  rw [this, nat_or_top n (by omega)]
  unfold low; omega

theorem shr_small (x : Int) (h0 : 0 ≤ x) (h1 : x < 9223372036854775808) : x / 9223372036854775808 = 0 := by omega
theorem shr_great (x : Int) (h0 : 9223372036854775808 ≤ x) (h1 : x < 18446744073709551616) : x / 9223372036854775808 = 1 := by omega
end Go.Proofs.Ybulkbjwi
