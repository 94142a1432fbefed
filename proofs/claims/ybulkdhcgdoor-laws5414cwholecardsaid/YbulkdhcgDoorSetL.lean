/-
  countSet: a word's update, as plain data.
-/
import Derived.Test.YbulkdhcgDoorNextW
namespace Go.Proofs.YbulkdhcgDoor
open Go.RowKit

/-- word j of level i; 0 past the ends. -/
def Lvs.old (s : Lvs) (i j : Nat) : Nat := if i < s.L ∧ j < s.nw i then s.wd i j else 0
def Lvs.nz (s : Lvs) (i : Nat) : Nat := if i < s.L then s.nw i else 0
/-- mask m or'ed into word w of level i. -/
def Lvs.upd (s : Lvs) (i w m : Nat) : Lvs where
  L := max s.L (i + 1)
  nw := fun k => if k = i then max (s.nz i) (w + 1) else s.nw k
  wd := fun k j => if k = i then (if j = w then s.old i w ||| m else s.old i j) else s.wd k j

theorem Lvs.bit_old (s : Lvs) (i x : Nat) : s.bit i x = (s.old i (x / 64)).testBit (x % 64) := by
  unfold Lvs.bit bitAt Lvs.old
  by_cases h1 : i < s.L
  · by_cases h2 : x / 64 < s.nw i
    · simp [h1, h2]
    · simp [h2]
  · simp [h1]
theorem Lvs.upd_bit (s : Lvs) {i w m : Nat} (x : Nat) : (s.upd i w m).bit i x = (s.bit i x || (decide (x / 64 = w) && m.testBit (x % 64))) := by
  rw [Lvs.bit_old, Lvs.bit_old]
  have e : (s.upd i w m).old i (x / 64) = if x / 64 = w then s.old i w ||| m else s.old i (x / 64) := by
    unfold Lvs.old Lvs.upd
    simp only [if_true]
    by_cases h : x / 64 < max (s.nz i) (w + 1)
    · rw [if_pos ⟨by omega, h⟩]; rfl
    · rw [if_neg (fun h2 => h h2.2), if_neg (by omega)]
      have h3 : ¬ (i < s.L ∧ x / 64 < s.nw i) := fun h4 => by
        have : s.nz i = s.nw i := by unfold Lvs.nz; rw [if_pos h4.1]
        omega
      rw [if_neg h3]
  rw [e]
  by_cases h : x / 64 = w
  · rw [if_pos h, ← h, Nat.testBit_or]; simp
  · rw [if_neg h]; simp [h]
theorem Lvs.upd_bit_ne (s : Lvs) {i w m k : Nat} (hi : i ≤ s.L) (hk : k ≠ i) (x : Nat) : (s.upd i w m).bit k x = s.bit k x := by
  unfold Lvs.bit Lvs.upd
  simp only [if_neg hk]
  by_cases h1 : k < s.L
  · rw [decide_eq_true h1, decide_eq_true (by omega : k < max s.L (i + 1))]
  · rw [decide_eq_false h1, decide_eq_false (by omega : ¬ k < max s.L (i + 1))]
theorem Lvs.old_lt {s : Lvs} (h : s.Ok) (i j : Nat) : s.old i j < 18446744073709551616 := by
  unfold Lvs.old; split
  · exact h.lt i j
  · omega
theorem or_lt64 {a b : Nat} (ha : a < 18446744073709551616) (hb : b < 18446744073709551616) : a ||| b < 18446744073709551616 := Nat.or_lt_two_pow (n := 64) ha hb
theorem Lvs.Ok.upd {s : Lvs} (h : s.Ok) {i w m : Nat} (hi : i ≤ s.L) (hi2 : i ≤ 64) (hw : w ≤ 2048) (hm : m < 18446744073709551616) (h0 : i = 0 → ∀ b, m.testBit b = true → 64 * w + b < 131072)
    (h1 : ∀ k, i = k + 1 → ∀ b, b < 64 → m.testBit b = true → ∀ c, c < 64 → s.bit k (64 * (64 * w + b) + c) = true) : (s.upd i w m).Ok := by
  have hbit : ∀ k x, s.bit k x = true → (s.upd i w m).bit k x = true := fun k x hx => by
    by_cases e : k = i
    · subst e; rw [Lvs.upd_bit, hx]; rfl
    · rw [s.upd_bit_ne hi e]; exact hx
  refine ⟨fun k j => ?_, fun k x hx b hb => ?_, fun x hx => ?_, fun k => ?_, ?_⟩
  · unfold Lvs.upd
    simp only
    split
    · split
      · exact or_lt64 (Lvs.old_lt h _ _) hm
      · exact Lvs.old_lt h _ _
    · exact h.lt k j
  · by_cases e : k + 1 = i
    · rw [e, Lvs.upd_bit, Bool.or_eq_true] at hx
      rcases hx with hx | hx
      · exact hbit k _ (h.up k x (by rw [e]; exact hx) b hb)
      · simp only [Bool.and_eq_true, decide_eq_true_eq] at hx
        have := h1 k e.symm (x % 64) (by omega) hx.2 b hb
        rw [show 64 * w + x % 64 = x by omega] at this
        exact hbit k _ this
    · rw [s.upd_bit_ne hi e] at hx
      exact hbit k _ (h.up k x hx b hb)
  · by_cases e : 0 = i
    · rw [e, Lvs.upd_bit, ← e, Bool.or_eq_true] at hx
      rcases hx with hx | hx
      · exact h.hi x hx
      · simp only [Bool.and_eq_true, decide_eq_true_eq] at hx
        have := h0 e.symm (x % 64) hx.2
        omega
    · rw [s.upd_bit_ne hi e] at hx
      exact h.hi x hx
  · unfold Lvs.upd Lvs.nz
    simp only
    split
    · have := h.nw i
      split <;> omega
    · exact h.nw k
  · unfold Lvs.upd
    simp only
    have := h.L
    omega
/-- a full word at level i: i is 0 or 1, and its place is small. -/
theorem Lvs.Ok.full {s : Lvs} (h : s.Ok) {i w : Nat} (hf : ∀ b, b < 64 → s.bit i (64 * w + b) = true) : i ≤ 1 := by
  have h1 := hf 63 (by omega)
  have h2 := h.sound i (64 * w + 63) h1 ((64 * w + 63 + 1) * 64 ^ i - 1) (by
    have hp : 0 < 64 ^ i := Nat.pow_pos (by omega)
    rw [Nat.add_mul (64 * w + 63) 1, Nat.one_mul]; omega) (by
    have hp : 0 < (64 * w + 63 + 1) * 64 ^ i := Nat.mul_pos (by omega) (Nat.pow_pos (by omega))
    omega)
  have h3 := h.hi _ h2
  by_cases hi : i ≤ 1
  · exact hi
  · have h4 : 64 ^ 2 ≤ 64 ^ i := Nat.pow_le_pow_right (by omega) (by omega)
    have h5 : 64 * 64 ^ i ≤ (64 * w + 63 + 1) * 64 ^ i := Nat.mul_le_mul_right _ (by omega)
    have h6 : (64 : Nat) ^ 2 = 4096 := by decide
    omega
end Go.Proofs.YbulkdhcgDoor
