/-
  THE WALKS of LawS5410AWhole's two callees: zzs5410apow, trimmed.
-/
import Derived.Test.YbulkdhacRows
import Derived.Test.YbulkdhacPlain
import Derived.WalkKit
import Derived.WalkSpells
import Derived.RowKit3
namespace Go.Proofs.Ybulkdhac
open Go.RowKit Plain

theorem ret_int {k : IntKind} {a b : Int} (h : a = b) : Ending.returned (.int k a) = .returned (.int k b) := by rw [h]

set_option maxHeartbeats 400000 in
/-- zzs5410apow: 10^k. -/
theorem pow_any (k : Int) (h0 : 0 ≤ k) (h1 : k ≤ 19) (w : World) :
    Calls Yba.prog 5 #[.int .i64 k] w fun e w' => e = .returned (.int .u64 (p10 k.toNat)) ∧ w' = w := by
  obtain ⟨n, rfl⟩ := Int.eq_ofNat_of_zero_le h0
  rw [Int.toNat_natCast]
  go_enter Yba.func5, Yba.ntmps5
  go_wp2
  go_loop [3, 4] (fun p i => ∃ j : Nat, j ≤ n ∧ i = .int .i64 j ∧ p = .int .u64 (p10 j)) (fun _ i => n - (intOf i).toNat)
  case atStart => exact ⟨0, Nat.zero_le _, rfl, rfl⟩
  case round =>
    obtain ⟨j, hj, rfl, rfl⟩ := hrel
    by_cases hlt : j < n
    · have b0 := p10_pos j
      have b1 := p10_le (j + 1) (by omega)
      have HS : Hid (p10 (j + 1) = p10 j * 10) := p10_succ j
      have b2 : p10 j * 10 ≤ 10000000000000000000 := by rw [← HS.out]; exact b1
      clear b1
      go_wp2
      go_round
      case rel => exact ⟨j + 1, by omega, by go_num, by rw [HS.out]⟩
      case measure => simp [intOf]; omega
    · obtain rfl : j = n := by omega
      go_wp2
      go_ret
      exact ⟨rfl, rfl⟩

set_option maxHeartbeats 400000 in
/-- trimmed: j zeros dropped, j as 'Trim' says. -/
theorem trimmed_any (d p : Int) (d0 : 0 ≤ d) (d1 : d ≤ 18446744073709551615) (p0 : -9223372036854775808 ≤ p) (p1 : p ≤ 1048576) (w : World) :
    Calls Yba.prog 4 #[.int .u64 d, .int .i64 p] w fun e w' => ∃ j : Nat, Trim d p j ∧ e = .returned (.agg #[.int .u64 (q10 d j), .int .u8 ((p - j) % 256)]) ∧ ∃ c : Array Value, w' = w.alloc (.cells c 24) := by
  go_enter Yba.func4, Yba.ntmps4
  go_wp2
  go_loop [0, 1] (fun a b => ∃ j : Nat, dv d j ∧ (j = 0 ∨ (j : Int) ≤ p - 1) ∧ a = .int .u64 (q10 d j) ∧ b = .int .i64 (p - j)) (fun _ b => (intOf b).toNat)
  case atStart => exact ⟨0, dv_zero d, Or.inl rfl, by rw [q10_zero], by simp⟩
  case round =>
    obtain ⟨j, hd, hl, rfl, rfl⟩ := hrel
    obtain ⟨q0, q1⟩ := q10_bd d d0 j
    have hs := dv_succ d j hd
    by_cases c1 : 1 < p - j
    · by_cases c2 : q10 d j % 10 = 0
      · have HS : Hid (q10 d j / 10 = q10 d (j + 1)) := q10_succ d j
        have HD : Hid (dv d (j + 1)) := hs.2 c2
        have c3 : (q10 d j % 10 == 0) = true := by simp [c2]
        clear hs c2
        go_wp2
        go_round
        case rel => exact ⟨j + 1, HD.out, by omega, by rw [← HS.out], by go_num⟩
        case measure => simp [intOf]; omega
      · have c3 : (q10 d j % 10 == 0) = false := by simp [c2]
        have HT : Hid (Trim d p j) := ⟨hd, hl, Or.inr (fun g => c2 (hs.1 g))⟩
        clear hs c2
        go_wp2
        exact bodyPost_ret (v := .agg #[.int .u64 (q10 d j), .int .u8 ((p - j) % 256)]) (by simp [results, Yba.results4, go_sem]) rfl ⟨j, HT.out, rfl, _, rfl⟩
    · have HT : Hid (Trim d p j) := ⟨hd, hl, Or.inl (by omega)⟩
      clear hs
      go_wp2
      exact bodyPost_ret (v := .agg #[.int .u64 (q10 d j), .int .u8 ((p - j) % 256)]) (by simp [results, Yba.results4, go_sem]) rfl ⟨j, HT.out, rfl, _, rfl⟩

set_option maxHeartbeats 400000 in
theorem law_small (d p : Int) (d0 : 0 ≤ d) (d1 : d ≤ 18446744073709551615) (p0 : -9223372036854775808 ≤ p) (p1 : p ≤ 1) (w : World) :
    Calls Yba.prog 3 #[.int .u64 d, .int .i64 p] w fun e w' => e = .returned (.bool true) ∧ Grown w w' := by
  go_enter Yba.func3, Yba.ntmps3
  go_wp2_with fail
  refine (trimmed_any d p d0 d1 p0 (by omega) _).mono ?_
  rintro e w' ⟨j, ht, rfl, c, rfl⟩
  obtain rfl : j = 0 := trim_small d p j ht p1
  rw [q10_zero]
  clear ht
  go_wp2
  go_ret
  exact ⟨rfl, by repeat (first | exact Grown.refl _ | apply Grown.drew | apply Grown.alloc)⟩

set_option maxHeartbeats 400000 in
theorem law_great (d p : Int) (p1 : 1048576 < p) (w : World) :
    Calls Yba.prog 3 #[.int .u64 d, .int .i64 p] w fun e w' => e = .returned (.bool true) ∧ Grown w w' := by
  go_enter Yba.func3, Yba.ntmps3
  go_wp2_with fail
  go_ret
  exact ⟨rfl, by repeat (first | exact Grown.refl _ | apply Grown.drew | apply Grown.alloc)⟩

set_option maxHeartbeats 400000 in
theorem law_zero (p : Int) (p0 : 1 < p) (p1 : p ≤ 1048576) (w : World) :
    Calls Yba.prog 3 #[.int .u64 0, .int .i64 p] w fun e w' => e = .returned (.bool true) ∧ Grown w w' := by
  go_enter Yba.func3, Yba.ntmps3
  go_wp2_with fail
  refine (trimmed_any 0 p (by omega) (by omega) (by omega) (by omega) _).mono ?_
  rintro e w' ⟨j, ht, rfl, c, rfl⟩
  have hj := trim_zero p j ht p0
  have e1 : (p - (j : Int)) % 256 = 1 := by omega
  have e2 : q10 0 j = 0 := by unfold q10; exact Int.zero_ediv _
  rw [e1, e2]
  clear ht hj e1 e2
  go_wp2
  go_ret
  exact ⟨rfl, by repeat (first | exact Grown.refl _ | apply Grown.drew | apply Grown.alloc)⟩

theorem quo_bd (d : Int) (d0 : 0 < d) (j : Nat) : 0 ≤ d / p10 j ∧ d / p10 j ≤ d := q10_bd d (by omega) j

set_option maxHeartbeats 1000000 in
theorem law_rest (d p : Int) (d0 : 0 < d) (d1 : d ≤ 18446744073709551615) (p0 : 1 < p) (p1 : p ≤ 1048576) (w : World) :
    Calls Yba.prog 3 #[.int .u64 d, .int .i64 p] w fun e w' => e = .returned (.bool true) ∧ Grown w w' := by
  have c0 : (d == 0) = false := by simp; omega
  go_enter Yba.func3, Yba.ntmps3
  go_wp2_with fail
  refine (trimmed_any d p (by omega) (by omega) (by omega) (by omega) _).mono ?_
  rintro e w' ⟨j, ht, rfl, c, rfl⟩
  rw [show q10 d j = d / p10 j from rfl]
  obtain ⟨q0, q1⟩ := quo_bd d d0 j
  have r0 := p10_pos j
  have HT : Hid (Trim d p j) := ht
  clear ht
  go_wp2_with fail
  go_loop [7, 8] (fun z k => ∃ n : Nat, n ≤ 19 ∧ dv d n ∧ z = .int .i64 n ∧ k = .int .i64 (n + 1)) (fun _ k => 20 - (intOf k).toNat)
  case atStart => exact ⟨0, by omega, dv_zero d, rfl, rfl⟩
  case round =>
    obtain ⟨n, hn, hd, rfl, rfl⟩ := hrel
    by_cases hlt : n < 19
    · have b0 := p10_pos (n + 1)
      have b1 := p10_le (n + 1) (by omega)
      by_cases c1 : dv d (n + 1)
      · have HD : Hid (dv d (n + 1)) := c1
        have c2 : (d % p10 (n + 1) != 0) = false := by simpa [dv] using c1
        clear c1
        go_wp2_with fail
        refine (pow_any ((n : Int) + 1) (by omega) (by omega) _).mono ?_
        rintro e w' ⟨rfl, rfl⟩
        rw [show ((n : Int) + 1).toNat = n + 1 from by omega]
        go_wp2_with fail
        go_round
        case rel => exact ⟨n + 1, by omega, HD.out, by go_num, by go_num⟩
        case measure => simp [intOf]; omega
      · have hm := trim_min d p j n HT.out p0 hd c1
        have c2 : (d % p10 (n + 1) != 0) = true := by simpa [dv] using c1
        clear c1 HT hd
        by_cases c3 : p - 1 < (n : Int)
        · rw [if_pos c3] at hm
          have m1 : p ≤ (j : Int) + 1 := by omega
          have m2 : (j : Int) + 1 ≤ p := by omega
          clear hm
          have r1 := p10_le j (by omega)
          rw [show (p - (j : Int)) % 256 = 1 from by omega]
          go_wp2_with fail
          refine (pow_any ((n : Int) + 1) (by omega) (by omega) _).mono ?_
          rintro e w' ⟨rfl, rfl⟩
          rw [show ((n : Int) + 1).toNat = n + 1 from by omega]
          go_wp2_with fail
          refine (pow_any (p - 1) (by omega) (by omega) _).mono ?_
          rintro e w' ⟨rfl, rfl⟩
          rw [show (p - 1).toNat = j from by omega]
          go_wp2_with fail
          go_ret
          exact ⟨rfl, by repeat (first | exact Grown.refl _ | apply Grown.drew | apply Grown.alloc)⟩
        · rw [if_neg c3] at hm
          obtain rfl : j = n := by omega
          clear hm
          have r1 := p10_le j (by omega)
          go_wp2_with fail
          refine (pow_any ((j : Int) + 1) (by omega) (by omega) _).mono ?_
          rintro e w' ⟨rfl, rfl⟩
          rw [show ((j : Int) + 1).toNat = j + 1 from by omega]
          go_wp2_with fail
          refine (pow_any (j : Int) (by omega) (by omega) _).mono ?_
          rintro e w' ⟨rfl, rfl⟩
          rw [Int.toNat_natCast]
          go_wp2_with fail
          go_ret
          exact ⟨rfl, by repeat (first | exact Grown.refl _ | apply Grown.drew | apply Grown.alloc)⟩
    · obtain rfl : n = 19 := by omega
      have hm := trim_min d p j 19 HT.out p0 hd (not_dv_20 d d0 d1)
      clear HT hd hn hlt
      by_cases c3 : p - 1 < ((19 : Nat) : Int)
      · rw [if_pos c3] at hm
        have m1 : p ≤ (j : Int) + 1 := by omega
        have m2 : (j : Int) + 1 ≤ p := by omega
        have m3 : p - 1 < 19 := by omega
        clear hm c3
        have r1 := p10_le j (by omega)
        rw [show (p - (j : Int)) % 256 = 1 from by omega]
        go_wp2_with fail
        refine (pow_any (p - 1) (by omega) (by omega) _).mono ?_
        rintro e w' ⟨rfl, rfl⟩
        rw [show (p - 1).toNat = j from by omega]
        go_wp2_with fail
        go_ret
        exact ⟨rfl, by repeat (first | exact Grown.refl _ | apply Grown.drew | apply Grown.alloc)⟩
      · rw [if_neg c3] at hm
        obtain rfl : j = 19 := by omega
        have m3 : ¬ p - 1 < 19 := by omega
        clear hm c3
        have r1 := p10_le 19 (by omega)
        go_wp2_with fail
        refine (pow_any 19 (by omega) (by omega) _).mono ?_
        rintro e w' ⟨rfl, rfl⟩
        rw [show (19 : Int).toNat = 19 from rfl]
        go_wp2_with fail
        go_ret
        exact ⟨rfl, by repeat (first | exact Grown.refl _ | apply Grown.drew | apply Grown.alloc)⟩

/-- THE WALK, every input. -/
theorem law_any (d p : Int) (d0 : 0 ≤ d) (d1 : d ≤ 18446744073709551615) (p0 : -9223372036854775808 ≤ p) (w : World) :
    Calls Yba.prog 3 #[.int .u64 d, .int .i64 p] w fun e w' => e = .returned (.bool true) ∧ Grown w w' := by
  by_cases h1 : p ≤ 1
  · exact law_small d p d0 d1 p0 h1 w
  by_cases h2 : 1048576 < p
  · exact law_great d p h2 w
  by_cases h3 : d = 0
  · subst h3; exact law_zero p (by omega) (by omega) w
  · exact law_rest d p (by omega) d1 (by omega) (by omega) w
end Go.Proofs.Ybulkdhac
