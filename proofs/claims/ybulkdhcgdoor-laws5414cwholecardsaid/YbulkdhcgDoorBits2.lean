/-
  Bits: the lowest set bit.
-/
import Derived.Test.YbulkdhcgDoorBits
namespace Go.Proofs.YbulkdhcgDoor
open Go.RowKit

theorem ctz_spec (x : Nat) (h0 : x ≠ 0) (hx : x < 18446744073709551616) : Lib.ctz 64 x < 64 ∧ x.testBit (Lib.ctz 64 x) = true ∧ ∀ j, j < Lib.ctz 64 x → x.testBit j = false := by
  obtain ⟨m, hm, hk⟩ := Lib.ctzFrom_spec 64 x (by omega) hx
  have e : Lib.ctz 64 x = Lib.ctzFrom 64 x := by unfold Lib.ctz; rw [if_neg h0]
  rw [e]
  obtain ⟨k, hkk⟩ : ∃ k, k = Lib.ctzFrom 64 x := ⟨_, rfl⟩
  rw [← hkk] at hm hk ⊢
  refine ⟨hk, ?_, fun j hj => ?_⟩
  · rw [hm, Nat.testBit_two_pow_mul]; simp
  · rw [hm, Nat.testBit_two_pow_mul]; simp; omega
theorem ctz_uniq (x k : Nat) (hx : x < 18446744073709551616) (h1 : x.testBit k = true) (h2 : ∀ j, j < k → x.testBit j = false) : Lib.ctz 64 x = k := by
  have h0 : x ≠ 0 := fun e => by rw [e] at h1; simp at h1
  obtain ⟨_, a1, a2⟩ := ctz_spec x h0 hx
  rcases Nat.lt_trichotomy (Lib.ctz 64 x) k with h | h | h
  · rw [h2 _ h] at a1; cases a1
  · exact h
  · rw [a2 _ h] at h1; cases h1

/-- the bits from i up to c. -/
def tk (c i : Nat) : Nat := 2 ^ c - 2 ^ i
theorem tk_eq {c i : Nat} (h : i ≤ c) : tk c i = 2 ^ i * (2 ^ (c - i) - 1) := by
  unfold tk
  rw [Nat.mul_sub, ← Nat.pow_add, Nat.mul_one]
  congr 2
  omega
theorem tk_bit {c i : Nat} (h : i ≤ c) (j : Nat) : (tk c i).testBit j = decide (i ≤ j ∧ j < c) := by
  rw [tk_eq h, Nat.testBit_two_pow_mul, Nat.testBit_two_pow_sub_one]
  by_cases h1 : i ≤ j
  · by_cases h2 : j < c
    · simp [h1, h2]; omega
    · simp [h1, h2]; omega
  · simp [h1]
theorem tk_lt {c i : Nat} (hc : c ≤ 64) : tk c i < 18446744073709551616 := by
  unfold tk
  have h1 : 2 ^ c ≤ 2 ^ 64 := Nat.pow_le_pow_right (by omega) hc
  have h2 := Nat.two_pow_pos i
  have h3 : (2 : Nat) ^ 64 = 18446744073709551616 := by decide
  omega
theorem tk_self (c : Nat) : tk c c = 0 := by unfold tk; omega
theorem tk_ne {c i : Nat} (h : i < c) : tk c i ≠ 0 := by
  unfold tk
  have := Nat.pow_lt_pow_right (a := 2) (by omega) h
  omega
theorem tk_ctz {c i : Nat} (h : i < c) (hc : c ≤ 64) : Lib.ctz 64 (tk c i) = i :=
  ctz_uniq _ _ (tk_lt hc) (by rw [tk_bit (Nat.le_of_lt h)]; simp [h]) (fun j hj => by rw [tk_bit (Nat.le_of_lt h)]; simp; omega)
theorem tk_step {c i : Nat} (h : i < c) : tk c i &&& (tk c i - 1) = tk c (i + 1) := by
  have e : tk c i - 1 = 2 ^ i * (2 ^ (c - i) - 2) + (2 ^ i - 1) := by
    rw [tk_eq (Nat.le_of_lt h)]
    have h1 : 2 ≤ 2 ^ (c - i) := by
      have := Nat.pow_le_pow_right (n := 2) (by omega) (show 1 ≤ c - i by omega)
      simpa using this
    have h2 : 2 ^ i * (2 ^ (c - i) - 1) = 2 ^ i * (2 ^ (c - i) - 2) + 2 ^ i := by
      rw [show 2 ^ (c - i) - 1 = (2 ^ (c - i) - 2) + 1 by omega, Nat.mul_add, Nat.mul_one]
    have h3 := Nat.two_pow_pos i
    rw [h2]; omega
  apply Nat.eq_of_testBit_eq
  intro j
  rw [Nat.testBit_and, tk_bit (Nat.le_of_lt h), tk_bit (by omega : i + 1 ≤ c), e, Nat.testBit_two_pow_mul_add _ (by have := Nat.two_pow_pos i; omega)]
  by_cases h1 : j < i
  · rw [decide_eq_false (by omega : ¬ (i ≤ j ∧ j < c)), decide_eq_false (by omega : ¬ (i + 1 ≤ j ∧ j < c)), Bool.false_and]
  · rw [if_neg h1]
    have h4 : 2 ^ (c - i) - 2 = 2 ^ 1 * (2 ^ (c - i - 1) - 1) := by
      rw [Nat.mul_sub, ← Nat.pow_add]
      congr 2
      omega
    rw [h4, Nat.testBit_two_pow_mul, Nat.testBit_two_pow_sub_one]
    by_cases h5 : j = i
    · subst h5; rw [decide_eq_false (by omega : ¬ (j + 1 ≤ j ∧ j < c))]; simp
    · by_cases h6 : j < c
      · have : i + 1 ≤ j := by omega
        simp [h6, this]; omega
      · simp [h6]
/-- 'MaxUint64 >> (64 - c)'. -/
theorem max_shift {c : Nat} (hc : c ≤ 64) : 18446744073709551615 / 2 ^ (64 - c) = tk c 0 := by
  unfold tk
  have e : 2 ^ 64 = 2 ^ c * 2 ^ (64 - c) := by rw [← Nat.pow_add]; congr 1; omega
  have h3 : (2 : Nat) ^ 64 = 18446744073709551616 := by decide
  have h1 := Nat.two_pow_pos (64 - c)
  have h2 := Nat.two_pow_pos c
  rw [h3] at e
  have e2 : 18446744073709551615 = (2 ^ (64 - c) - 1) + 2 ^ (64 - c) * (2 ^ c - 1) := by
    rw [Nat.mul_sub, Nat.mul_one, Nat.mul_comm, ← e]
    have : 2 ^ (64 - c) ≤ 18446744073709551616 := by rw [e]; exact Nat.le_mul_of_pos_left _ h2
    omega
  rw [e2, Nat.add_mul_div_left _ _ h1, Nat.div_eq_of_lt (by omega)]
  simp
end Go.Proofs.YbulkdhcgDoor
