/-
  The law for every argument.
-/
import Derived.Test.YbulkdhacDoorShape
import Derived.Test.YbulkdhacDoorLawC
namespace Go.Proofs.YbulkdhacDoor
open Go.RowKit Floats

/-- the numbers that the law works with are there. -/
theorem rows_exist (L : List Nat) (hl : L.length = 19) (hn : ∀ x ∈ L, Nn x) : ∃ mm bb qq : Nat → Nat, floatBits .add .f64 (L.getD 0 0) one64 = some (mm 0) ∧ (∀ i, 0 < i → i < 19 → L.getD i 0 = mm i) ∧ (∀ i, i < 19 → floatBits .add .f64 (mm i) one64 = some (bb i)) ∧ (∀ i, i < 19 → floatBits .quo .f64 one64 (bb i) = some (qq i)) := by
  have hg : ∀ i, i < 19 → Nn (L.getD i 0) := fun i hi => by
    rw [List.getD_eq_getElem?_getD, List.getElem?_eq_getElem (by omega)]
    exact hn _ (List.getElem_mem _)
  obtain ⟨m0, h0, k0⟩ := add_one (hg 0 (by omega))
  obtain ⟨mm, hmm⟩ : ∃ mm : Nat → Nat, mm = fun i => if i = 0 then m0 else L.getD i 0 := ⟨_, rfl⟩
  have hm0 : mm 0 = m0 := by rw [hmm]; rfl
  have hmi : ∀ i, 0 < i → mm i = L.getD i 0 := fun i hi => by rw [hmm]; exact if_neg (by omega)
  have hmn : ∀ i, i < 19 → Nn (mm i) := fun i hi => by
    by_cases h : i = 0
    · rw [h, hm0]; exact k0
    · rw [hmi i (by omega)]; exact hg i hi
  have e1 : ∀ i, ∃ r, i < 19 → floatBits .add .f64 (mm i) one64 = some r ∧ Nn r := fun i => by
    by_cases h : i < 19
    · obtain ⟨r, hr, kr⟩ := add_one (hmn i h)
      exact ⟨r, fun _ => ⟨hr, kr⟩⟩
    · exact ⟨0, fun k => absurd k h⟩
  obtain ⟨bb, hbb⟩ := Classical.axiomOfChoice e1
  have e2 : ∀ i, ∃ r, i < 19 → floatBits .quo .f64 one64 (bb i) = some r := fun i => by
    by_cases h : i < 19
    · obtain ⟨r, hr, _⟩ := one_over (hbb i h).2
      exact ⟨r, fun _ => hr⟩
    · exact ⟨0, fun k => absurd k h⟩
  obtain ⟨qq, hqq⟩ := Classical.axiomOfChoice e2
  exact ⟨mm, bb, qq, by rw [hm0]; exact h0, fun i h1 _ => (hmi i h1).symm, fun i hi => (hbb i hi).1, hqq⟩

theorem nn_list (a r0 b r1 r2 r3 r4 r5 r6 r7 r8 c0 c1 c2 c3 c4 c5 s p : Nat) (ha : Nn a) (h0 : Nn r0) (hb : Nn b) (h1 : Nn r1) (h2 : Nn r2) (h3 : Nn r3) (h4 : Nn r4) (h5 : Nn r5) (h6 : Nn r6) (h7 : Nn r7) (h8 : Nn r8) (k0 : Nn c0) (k1 : Nn c1) (k2 : Nn c2) (k3 : Nn c3) (k4 : Nn c4) (k5 : Nn c5) (hs : Nn s) (hp : Nn p) :
    ∀ x ∈ [a, r0, b, r1, r2, r3, r4, r5, r6, r7, r8, c0, c1, c2, c3, c4, c5, s, p], Nn x := by
  intro x hx
  simp only [List.mem_cons, List.not_mem_nil, or_false] at hx
  rcases hx with rfl | rfl | rfl | rfl | rfl | rfl | rfl | rfl | rfl | rfl | rfl | rfl | rfl | rfl | rfl | rfl | rfl | rfl | rfl <;> assumption
theorem nn_scan (b : Bool) : Nn (scanB b) := by
  unfold scanB one64
  split <;> exact nn_of_lt (by omega)

theorem law_ev (b0 : Bool) (F : Nat → Nat) (I : Nat → Int) (ec : List Value) (N G Pr x0 x1 x2 x3 x4 x5 d0 d1 d2 d3 d4 d5 d6 d7 d8 p0 p1 p2 p3 p4 p5 p6 p7 p8 : Int) (sc fo pe : Bool)
    (hec : ec = [.int .i64 N, .int .i64 G, .int .i64 Pr, .int .u64 d0, .int .u64 d1, .int .u64 d2, .int .u64 d3, .int .u64 d4, .int .u64 d5, .int .u64 d6, .int .u64 d7, .int .u64 d8, .int .u8 p0, .int .u8 p1, .int .u8 p2, .int .u8 p3, .int .u8 p4, .int .u8 p5, .int .u8 p6, .int .u8 p7, .int .u8 p8, .int .i64 x0, .int .i64 x1, .int .i64 x2, .int .i64 x3, .int .i64 x4, .int .i64 x5, .bool sc, .bool fo, .bool pe]) (ha0 : 0 ≤ p0) (hb0 : p0 ≤ 255) (ha1 : 0 ≤ p1) (hb1 : p1 ≤ 255) (ha2 : 0 ≤ p2) (hb2 : p2 ≤ 255) (ha3 : 0 ≤ p3) (hb3 : p3 ≤ 255) (ha4 : 0 ≤ p4) (hb4 : p4 ≤ 255) (ha5 : 0 ≤ p5) (hb5 : p5 ≤ 255) (ha6 : 0 ≤ p6) (hb6 : p6 ≤ 255) (ha7 : 0 ≤ p7) (hb7 : p7 ≤ 255) (ha8 : 0 ≤ p8) (hb8 : p8 ≤ 255) (w : World) (hp : Pow w) :
    Calls Ybad.prog 3 #[.agg (arr (yv b0 F I)), .bool true, .agg ec.toArray] w fun e w' => e = .returned (.bool true) ∧ Below w.heap.size w w' := by
  have f0 : (p0 % 20).toNat < 20 := by omega
  have g0 : p0 % 20 = (((p0 % 20).toNat : Nat) : Int) := by omega
  obtain ⟨r0, q0, k0⟩ := quo_some d0 (p0 % 20).toNat f0
  have f1 : (p1 % 20).toNat < 20 := by omega
  have g1 : p1 % 20 = (((p1 % 20).toNat : Nat) : Int) := by omega
  obtain ⟨r1, q1, k1⟩ := quo_some d1 (p1 % 20).toNat f1
  have f2 : (p2 % 20).toNat < 20 := by omega
  have g2 : p2 % 20 = (((p2 % 20).toNat : Nat) : Int) := by omega
  obtain ⟨r2, q2, k2⟩ := quo_some d2 (p2 % 20).toNat f2
  have f3 : (p3 % 20).toNat < 20 := by omega
  have g3 : p3 % 20 = (((p3 % 20).toNat : Nat) : Int) := by omega
  obtain ⟨r3, q3, k3⟩ := quo_some d3 (p3 % 20).toNat f3
  have f4 : (p4 % 20).toNat < 20 := by omega
  have g4 : p4 % 20 = (((p4 % 20).toNat : Nat) : Int) := by omega
  obtain ⟨r4, q4, k4⟩ := quo_some d4 (p4 % 20).toNat f4
  have f5 : (p5 % 20).toNat < 20 := by omega
  have g5 : p5 % 20 = (((p5 % 20).toNat : Nat) : Int) := by omega
  obtain ⟨r5, q5, k5⟩ := quo_some d5 (p5 % 20).toNat f5
  have f6 : (p6 % 20).toNat < 20 := by omega
  have g6 : p6 % 20 = (((p6 % 20).toNat : Nat) : Int) := by omega
  obtain ⟨r6, q6, k6⟩ := quo_some d6 (p6 % 20).toNat f6
  have f7 : (p7 % 20).toNat < 20 := by omega
  have g7 : p7 % 20 = (((p7 % 20).toNat : Nat) : Int) := by omega
  obtain ⟨r7, q7, k7⟩ := quo_some d7 (p7 % 20).toNat f7
  have f8 : (p8 % 20).toNat < 20 := by omega
  have g8 : p8 % 20 = (((p8 % 20).toNat : Nat) : Int) := by omega
  obtain ⟨r8, q8, k8⟩ := quo_some d8 (p8 % 20).toNat f8
  obtain ⟨L, hL⟩ : ∃ L : List Nat, L = [floatOfInt .f64 N, r0, floatOfInt .f64 G, r1, r2, r3, r4, r5, r6, r7, r8, floatOfInt .f64 x0, floatOfInt .f64 x1, floatOfInt .f64 x2, floatOfInt .f64 x3, floatOfInt .f64 x4, floatOfInt .f64 x5, scanB sc, floatOfInt .f64 Pr] := ⟨_, rfl⟩
  have hlen : L.length = 19 := by rw [hL]; exact len_list _ _ _ _ _ _ _ _ _ _ _ _ _ _ _ _ _ _ _
  have hnn : ∀ x ∈ L, Nn x := by rw [hL]; exact nn_list _ _ _ _ _ _ _ _ _ _ _ _ _ _ _ _ _ _ _ (nn_ofInt _) k0 (nn_ofInt _) k1 k2 k3 k4 k5 k6 k7 k8 (nn_ofInt _) (nn_ofInt _) (nn_ofInt _) (nn_ofInt _) (nn_ofInt _) (nn_ofInt _) (nn_scan _) (nn_ofInt _)
  obtain ⟨mm, bb, qq, h0, hm, hbb, hqq⟩ := rows_exist L hlen hnn
  exact law_prev b0 F I ec N G Pr x0 x1 x2 x3 x4 x5 d0 d1 d2 d3 d4 d5 d6 d7 d8 p0 p1 p2 p3 p4 p5 p6 p7 p8 (p0 % 20).toNat (p1 % 20).toNat (p2 % 20).toNat (p3 % 20).toNat (p4 % 20).toNat (p5 % 20).toNat (p6 % 20).toNat (p7 % 20).toNat (p8 % 20).toNat sc fo pe hec g0 ha0 hb0 g1 ha1 hb1 g2 ha2 hb2 g3 ha3 hb3 g4 ha4 hb4 g5 ha5 hb5 g6 ha6 hb6 g7 ha7 hb7 g8 ha8 hb8 r0 r1 r2 r3 r4 r5 r6 r7 r8 ⟨q0, q1, q2, q3, q4, q5, q6, q7, q8⟩ ⟨f0, f1, f2, f3, f4, f5, f6, f7, f8⟩ L hL mm bb qq h0 hm hbb hqq w hp

theorem law_any (b0 : Bool) (F : Nat → Nat) (I : Nat → Int) (b : Bool) (J : Nat → Int) (B : Nat → Bool) (hJ : ∀ c, 12 ≤ c → c < 21 → 0 ≤ J c ∧ J c ≤ 255) (w : World) (hp : Pow w) :
    Calls Ybad.prog 3 #[.agg (arr (yv b0 F I)), .bool b, .agg ((List.range 30).map (evc J B)).toArray] w fun e w' => e = .returned (.bool true) ∧ Below w.heap.size w w' := by
  cases b with
  | false => exact law_nil b0 F I _ w hp
  | true => exact law_ev b0 F I _ (J 0) (J 1) (J 2) (J 21) (J 22) (J 23) (J 24) (J 25) (J 26) (J 3) (J 4) (J 5) (J 6) (J 7) (J 8) (J 9) (J 10) (J 11) (J 12) (J 13) (J 14) (J 15) (J 16) (J 17) (J 18) (J 19) (J 20) (B 27) (B 28) (B 29) rfl (hJ 12 (by omega) (by omega)).1 (hJ 12 (by omega) (by omega)).2 (hJ 13 (by omega) (by omega)).1 (hJ 13 (by omega) (by omega)).2 (hJ 14 (by omega) (by omega)).1 (hJ 14 (by omega) (by omega)).2 (hJ 15 (by omega) (by omega)).1 (hJ 15 (by omega) (by omega)).2 (hJ 16 (by omega) (by omega)).1 (hJ 16 (by omega) (by omega)).2 (hJ 17 (by omega) (by omega)).1 (hJ 17 (by omega) (by omega)).2 (hJ 18 (by omega) (by omega)).1 (hJ 18 (by omega) (by omega)).2 (hJ 19 (by omega) (by omega)).1 (hJ 19 (by omega) (by omega)).2 (hJ 20 (by omega) (by omega)).1 (hJ 20 (by omega) (by omega)).2 w hp
end Go.Proofs.YbulkdhacDoor
