/-
  THE PLAIN LAW of LawS5414AWhole: sums modulo 2^64: no Go in sight.
-/
namespace Go.Proofs.Ybulkdhcg.Plain

/-- start and the counts of the first k insertions, modulo 2^64. -/
def endTo (start : Int) (kd ct : Nat → Int) : Nat → Int
  | 0 => start
  | k + 1 => if kd k = 1 then (endTo start kd ct k + ct k) % 18446744073709551616 else endTo start kd ct k
/-- all counts. -/
def allTo (ct : Nat → Int) : Nat → Int
  | 0 => 0
  | k + 1 => (allTo ct k + ct k) % 18446744073709551616
/-- the counts of all that is no insertion. -/
def otherTo (kd ct : Nat → Int) : Nat → Int
  | 0 => 0
  | k + 1 => if kd k = 1 then otherTo kd ct k else (otherTo kd ct k + ct k) % 18446744073709551616

theorem endTo_bd (start : Int) (kd ct : Nat → Int) (h0 : 0 ≤ start) (h1 : start ≤ 18446744073709551615) (k : Nat) : 0 ≤ endTo start kd ct k ∧ endTo start kd ct k ≤ 18446744073709551615 := by
  induction k with
  | zero => exact ⟨h0, h1⟩
  | succ k ih => unfold endTo; split <;> omega
theorem allTo_bd (ct : Nat → Int) (k : Nat) : 0 ≤ allTo ct k ∧ allTo ct k ≤ 18446744073709551615 := by
  cases k with
  | zero => unfold allTo; omega
  | succ k => unfold allTo; omega
theorem otherTo_bd (kd ct : Nat → Int) (k : Nat) : 0 ≤ otherTo kd ct k ∧ otherTo kd ct k ≤ 18446744073709551615 := by
  induction k with
  | zero => unfold otherTo; omega
  | succ k ih => unfold otherTo; split <;> omega
/-- THE LAW. -/
theorem end_is (start : Int) (kd ct : Nat → Int) (h0 : 0 ≤ start) (h1 : start ≤ 18446744073709551615) (k : Nat) :
    endTo start kd ct k = ((start + allTo ct k) % 18446744073709551616 - otherTo kd ct k) % 18446744073709551616 := by
  induction k with
  | zero => simp only [endTo, allTo, otherTo]; omega
  | succ k ih =>
    have := endTo_bd start kd ct h0 h1 k
    simp only [endTo, allTo, otherTo]
    split <;> omega
end Go.Proofs.Ybulkdhcg.Plain
