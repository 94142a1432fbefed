/-
  THE PLAIN LAWS of LawS5410AWhole: powers of ten and quotients by them: no Go in sight.
-/
namespace Go.Proofs.Ybulkdhac.Plain

/-- 10^n, behind a name. -/
def p10 (n : Nat) : Int := (10 : Int) ^ n
/-- d / 10^n, behind a name. -/
def q10 (d : Int) (n : Nat) : Int := d / p10 n
/-- does 10^n divide d? -/
def dv (d : Int) (n : Nat) : Prop := d % p10 n = 0

theorem p10_zero : p10 0 = 1 := rfl
theorem p10_succ (n : Nat) : p10 (n + 1) = p10 n * 10 := by unfold p10; rw [Int.pow_succ]
theorem p10_pos (n : Nat) : 1 ≤ p10 n := by
  induction n with
  | zero => simp [p10_zero]
  | succ n ih => rw [p10_succ]; omega
theorem p10_mono (m n : Nat) (h : m ≤ n) : p10 m ≤ p10 n := by
  induction n with
  | zero => obtain rfl : m = 0 := by omega
            exact Int.le_refl _
  | succ n ih =>
    by_cases e : m = n + 1
    · subst e; exact Int.le_refl _
    · have := ih (by omega); have := p10_pos n; rw [p10_succ]; omega
theorem p10_19 : p10 19 = 10000000000000000000 := by decide
theorem p10_20 : p10 20 = 100000000000000000000 := by decide
theorem p10_le (n : Nat) (h : n ≤ 19) : p10 n ≤ 10000000000000000000 := by
  have := p10_mono n 19 h; rw [p10_19] at this; exact this

theorem q10_zero (d : Int) : q10 d 0 = d := by unfold q10; rw [p10_zero]; omega
theorem q10_succ (d : Int) (n : Nat) : q10 d n / 10 = q10 d (n + 1) := by
  unfold q10; rw [p10_succ, Int.ediv_ediv_of_nonneg (by have := p10_pos n; omega)]
theorem q10_bd (d : Int) (h0 : 0 ≤ d) (n : Nat) : 0 ≤ q10 d n ∧ q10 d n ≤ d := by
  unfold q10
  have := p10_pos n
  exact ⟨Int.ediv_nonneg h0 (by omega), Int.ediv_le_self _ h0⟩

theorem dv_zero (d : Int) : dv d 0 := by unfold dv; rw [p10_zero]; omega
theorem dv_iff (d : Int) (n : Nat) : dv d n ↔ p10 n ∣ d := by
  unfold dv; exact (Int.dvd_iff_emod_eq_zero).symm
theorem dv_down (d : Int) (m n : Nat) (h : m ≤ n) (hd : dv d n) : dv d m := by
  rw [dv_iff] at *
  refine Int.dvd_trans ?_ hd
  unfold p10
  exact ⟨10 ^ (n - m), by rw [← Int.pow_add]; congr 1; omega⟩
theorem dv_succ (d : Int) (n : Nat) (hd : dv d n) : dv d (n + 1) ↔ q10 d n % 10 = 0 := by
  rw [dv_iff] at hd
  obtain ⟨c, rfl⟩ := hd
  have hp := p10_pos n
  have e : q10 (p10 n * c) n = c := by unfold q10; exact Int.mul_ediv_cancel_left _ (by omega)
  rw [e, dv_iff, p10_succ]
  constructor
  · intro ⟨x, hx⟩
    have : c = 10 * x := by
      rw [Int.mul_assoc] at hx
      exact Int.eq_of_mul_eq_mul_left (by omega) hx
    omega
  · intro h
    exact ⟨c / 10, by rw [Int.mul_assoc]; congr 1; omega⟩
/-- no number of 64 bits but 0 is divisible by 10^20. -/
theorem not_dv_20 (d : Int) (h0 : 0 < d) (h1 : d ≤ 18446744073709551615) : ¬ dv d 20 := by
  unfold dv; rw [p10_20]; omega

/-- what trimmed ends with: the number of zeros dropped. -/
structure Trim (d p : Int) (j : Nat) : Prop where
  div : dv d j
  low : j = 0 ∨ (j : Int) ≤ p - 1
  stop : p - j ≤ 1 ∨ ¬ dv d (j + 1)

theorem trim_small (d p : Int) (j : Nat) (h : Trim d p j) (hp : p ≤ 1) : j = 0 := by
  rcases h.low with e | e <;> omega
theorem trim_zero (p : Int) (j : Nat) (h : Trim 0 p j) (hp : 1 < p) : (j : Int) = p - 1 := by
  have hs : p - j ≤ 1 := by
    rcases h.stop with e | e
    · exact e
    · exact absurd (by unfold dv; exact Int.zero_emod _) e
  rcases h.low with e | e <;> omega
/-- the law's own count: 10^z divides, 10^(z+1) does not. -/
theorem trim_min (d p : Int) (j z : Nat) (h : Trim d p j) (hp : 1 < p) (hz : dv d z) (hz' : ¬ dv d (z + 1)) :
    (j : Int) = if p - 1 < (z : Int) then p - 1 else z := by
  have hjz : j ≤ z := by
    rcases Nat.lt_or_ge z j with g | g
    · exact absurd (dv_down d (z + 1) j (by omega) h.div) hz'
    · exact g
  have hl : (j : Int) ≤ p - 1 := by rcases h.low with e | e <;> omega
  rcases h.stop with e | e
  · split <;> omega
  · have : ¬ j < z := fun g => e (dv_down d (j + 1) z (by omega) hz)
    split <;> omega
end Go.Proofs.Ybulkdhac.Plain
