/-
  countSet: its levels; next.
-/
import Derived.Test.YbulkdhcgDoorBits2
namespace Go.Proofs.YbulkdhcgDoor
open Go.RowKit

/-- the complement of a word. -/
def cw (v : Nat) : Nat := 18446744073709551615 - v
theorem cw_bit (v : Nat) (hv : v < 18446744073709551616) (j : Nat) : (cw v).testBit j = (decide (j < 64) && !v.testBit j) := by
  have h := Nat.testBit_two_pow_sub_succ (x := v) (n := 64) (by simpa using hv) j
  have e : 2 ^ 64 - (v + 1) = cw v := by unfold cw; have : (2 : Nat) ^ 64 = 18446744073709551616 := by decide
                                         omega
  rw [e] at h; exact h
theorem cw_lt (v : Nat) : cw v < 18446744073709551616 := by unfold cw; omega
theorem free_zero (v r : Nat) (hv : v < 18446744073709551616) (h : cw v / 2 ^ r = 0) (b : Nat) (h1 : r ≤ b) (h2 : b < 64) : v.testBit b = true := by
  have h3 : (cw v / 2 ^ r).testBit (b - r) = false := by rw [h]; simp
  rw [Nat.testBit_div_two_pow, show b - r + r = b by omega, cw_bit v hv] at h3
  simpa [h2] using h3
theorem free_some (v r : Nat) (hv : v < 18446744073709551616) (h : cw v / 2 ^ r ≠ 0) : r + Lib.ctz 64 (cw v / 2 ^ r) < 64 ∧ ∀ b, r ≤ b → b < r + Lib.ctz 64 (cw v / 2 ^ r) → v.testBit b = true := by
  have hl : cw v / 2 ^ r < 18446744073709551616 := Nat.lt_of_le_of_lt (Nat.div_le_self _ _) (cw_lt v)
  obtain ⟨_, h2, h3⟩ := ctz_spec _ h hl
  obtain ⟨t, ht⟩ : ∃ t, t = Lib.ctz 64 (cw v / 2 ^ r) := ⟨_, rfl⟩
  rw [← ht] at h2 h3 ⊢
  rw [Nat.testBit_div_two_pow, cw_bit v hv] at h2
  simp only [Bool.and_eq_true, decide_eq_true_eq] at h2
  refine ⟨by omega, fun b h4 h5 => ?_⟩
  have h6 := h3 (b - r) (by omega)
  rw [Nat.testBit_div_two_pow, show b - r + r = b by omega, cw_bit v hv] at h6
  have h7 : b < 64 := by omega
  simpa [h7] using h6
theorem free_all (v : Nat) (hv : v < 18446744073709551616) : Lib.ctz 64 (cw v) ≤ 64 ∧ ∀ b, b < Lib.ctz 64 (cw v) → v.testBit b = true := by
  by_cases h : cw v = 0
  · have e : Lib.ctz 64 (cw v) = 64 := by unfold Lib.ctz; rw [if_pos h]
    rw [e]
    exact ⟨Nat.le_refl _, fun b hb => free_zero v 0 hv (by rw [h]) b (by omega) hb⟩
  · have h2 := free_some v 0 hv (by simpa using h)
    simp at h2
    exact ⟨by omega, fun b hb => h2.2 b hb⟩

/-- the levels of a countSet, as plain data. -/
structure Lvs where
  (L : Nat) (nw : Nat → Nat) (wd : Nat → Nat → Nat)
/-- bit x of level i. -/
def Lvs.bit (s : Lvs) (i x : Nat) : Bool := decide (i < s.L) && bitAt (s.nw i) (s.wd i) x
structure Lvs.Ok (s : Lvs) : Prop where
  lt : ∀ i j, s.wd i j < 18446744073709551616
  up : ∀ i x, s.bit (i + 1) x = true → ∀ b, b < 64 → s.bit i (64 * x + b) = true
  hi : ∀ x, s.bit 0 x = true → x < 131072
  nw : ∀ i, s.nw i ≤ 4096
  L : s.L ≤ 4096
theorem Lvs.Ok.sound {s : Lvs} (h : s.Ok) : ∀ i x, s.bit i x = true → ∀ c, x * 64 ^ i ≤ c → c < (x + 1) * 64 ^ i → s.bit 0 c = true
  | 0, x, hx, c, h1, h2 => by
    simp at h1 h2
    have : c = x := by omega
    rw [this]; exact hx
  | i + 1, x, hx, c, h1, h2 => by
    have e : 64 ^ (i + 1) = 64 * 64 ^ i := by rw [Nat.pow_succ, Nat.mul_comm]
    have hp : 0 < 64 ^ i := Nat.pow_pos (by omega)
    rw [e, ← Nat.mul_assoc] at h1 h2
    have q1 : 64 * x ≤ c / 64 ^ i := by rw [Nat.le_div_iff_mul_le hp, Nat.mul_comm 64 x]; exact h1
    have q2 : c / 64 ^ i < 64 * x + 64 := by rw [Nat.div_lt_iff_lt_mul hp, show 64 * x + 64 = (x + 1) * 64 by omega]; exact h2
    have hb := h.up i x hx (c / 64 ^ i - 64 * x) (by omega)
    rw [show 64 * x + (c / 64 ^ i - 64 * x) = c / 64 ^ i by omega] at hb
    exact Lvs.Ok.sound h i _ hb c (Nat.div_mul_le_self _ _) (by have := Nat.lt_div_mul_add (a := c) hp; rw [Nat.add_mul, Nat.one_mul]; omega)

/-- all counts from n up to m are held. -/
def Lvs.From (s : Lvs) (n m : Nat) : Prop := n ≤ m ∧ ∀ c, n ≤ c → c < m → s.bit 0 c = true
theorem Lvs.From.le {s : Lvs} {n m : Nat} (h : s.From n m) (hs : s.Ok) (hn : n ≤ 131072) : m ≤ 131072 := by
  by_cases e : m = n
  · omega
  · have h1 := h.2 (m - 1) (by have := h.1; omega) (by have := h.1; omega)
    have := hs.hi _ h1
    omega
/-- from bit k of level i on: d bits are set. -/
theorem Lvs.From.more {s : Lvs} {n i k : Nat} (hs : s.Ok) (h : s.From n (k * 64 ^ i)) (d : Nat) (hd : ∀ b, k ≤ b → b < k + d → s.bit i b = true) : s.From n ((k + d) * 64 ^ i) := by
  have hp : 0 < 64 ^ i := Nat.pow_pos (by omega)
  refine ⟨Nat.le_trans h.1 (Nat.mul_le_mul_right _ (by omega)), fun c h1 h2 => ?_⟩
  by_cases e : c < k * 64 ^ i
  · exact h.2 c h1 e
  · have q1 : k ≤ c / 64 ^ i := by rw [Nat.le_div_iff_mul_le hp]; omega
    have q2 : c / 64 ^ i < k + d := by rw [Nat.div_lt_iff_lt_mul hp]; exact h2
    exact hs.sound i _ (hd _ q1 q2) c (Nat.div_mul_le_self _ _) (by have := Nat.lt_div_mul_add (a := c) hp; rw [Nat.add_mul, Nat.one_mul]; omega)

/-- the levels in memory. -/
structure Lvs.At (s : Lvs) (w : World) (bd od : Nat) (a : Option Addr) (c : Nat) (av : Nat → Option Addr) (cv : Nat → Nat) : Prop where
  top : w.cell? ⟨bd, od, none⟩ = some (.slice a s.L c)
  at0 : 0 < s.L → ∃ bl, a = some ⟨bl, 0, none⟩
  row : ∀ bl, a = some ⟨bl, 0, none⟩ → ∀ i, i < s.L → w.cell? ⟨bl, i, none⟩ = some (.slice (av i) (s.nw i) (cv i))
  words : ∀ i, i < s.L → Words w (av i) (s.nw i) (s.wd i)
end Go.Proofs.YbulkdhcgDoor
