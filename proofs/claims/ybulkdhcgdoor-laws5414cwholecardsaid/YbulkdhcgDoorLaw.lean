/-
  The law, whole.
-/
import Derived.Test.YbulkdhcgDoorLawS9
namespace Go.Proofs.YbulkdhcgDoor
open Go.RowKit

/-- the texts' lengths, summed. -/
def Inp.sum (I : Inp) : Nat → Nat
  | 0 => 0
  | k + 1 => I.sum k + I.tl k
theorem Inp.tl_le (I : Inp) : ∀ k i, i < k → I.tl i ≤ I.sum k
  | 0, _, h => by omega
  | k + 1, i, h => by
    have e : I.sum (k + 1) = I.sum k + I.tl k := rfl
    by_cases h2 : i = k
    · rw [e, h2]; omega
    · have := I.tl_le k i (by omega)
      omega
theorem Inp.sum_le (I : Inp) {n b : Nat} (h : ∀ i, i < n → I.tl i ≤ b) : ∀ k, k ≤ n → I.sum k ≤ k * b
  | 0, _ => by simp [Inp.sum]
  | k + 1, hk => by
    have h1 := Inp.sum_le I h k (by omega)
    have h2 := h k (by omega)
    have e : I.sum (k + 1) = I.sum k + I.tl k := rfl
    rw [e, Nat.succ_mul]; omega
set_option maxRecDepth 100000 in
set_option maxHeartbeats 8000000 in
theorem law_many (I : Inp) (w0 : World) (hI : I.At w0) (hb0 : I.n0 ≤ 17592186044416) (hn : 64 < I.n0) :
    Calls Ybad.prog 3 #[.slice I.a0 I.n0 I.k0, .slice I.a1 I.n1 I.k1, .int .u8 (I.per : Nat), .int .u64 (I.lv : Nat), .slice I.a4 I.n4 I.k4, .slice I.a5 I.n5 I.k5] w0 (lawPost w0) := by
  have HI : Hid (I.At w0) := hI
  clear hI
  go_enter Ybad.func3, Ybad.ntmps3
  go_wp2
  go_loop [13, 60] (fun s x => ∃ (k : Nat) (z : Int), s = .int .i64 z ∧ x = .int .i64 k ∧ k ≤ I.n0) (fun _ x => I.n0 - (intOf x).toNat)
  case atStart => exact ⟨0, 0, rfl, rfl, Nat.zero_le _⟩
  case round =>
    obtain ⟨k, z, rfl, rfl, hk⟩ := hrel
    by_cases h : k < I.n0
    · have e1 : (k : Int) < (I.n0 : Int) := by omega
      obtain ⟨b, o, ha0, c1⟩ := HI.out.t k h
      rw [ha0]
      go_wp2
      exact ⟨⟨k + 1, _, rfl, by go_num, by omega⟩, by simp [intOf]; go_num⟩
    · have e1 : ¬ (k : Int) < (I.n0 : Int) := by omega
      have e2 : (64 : Int) < (I.n0 : Int) := by omega
      go_wp2
      go_ret
      exact ⟨rfl, Below.refl _ _⟩
set_option maxRecDepth 100000 in
set_option maxHeartbeats 8000000 in
theorem law_few (I : Inp) (w0 : World) (hI : I.At w0) (hn : I.n0 ≤ 64) (hbt : ∀ i, i < I.n0 → I.tl i ≤ 281474976710656) :
    Calls Ybad.prog 3 #[.slice I.a0 I.n0 I.k0, .slice I.a1 I.n1 I.k1, .int .u8 (I.per : Nat), .int .u64 (I.lv : Nat), .slice I.a4 I.n4 I.k4, .slice I.a5 I.n5 I.k5] w0 (lawPost w0) := by
  have HI : Hid (I.At w0) := hI
  have HBT : Hid (∀ i, i < I.n0 → I.tl i ≤ 281474976710656) := hbt
  clear hI hbt
  go_enter Ybad.func3, Ybad.ntmps3
  go_wp2
  go_loop [13, 60] (fun s x => ∃ k : Nat, s = .int .i64 (I.sum k : Nat) ∧ x = .int .i64 k ∧ k ≤ I.n0) (fun _ x => I.n0 - (intOf x).toNat)
  case atStart => exact ⟨0, rfl, rfl, Nat.zero_le _⟩
  case round =>
    obtain ⟨k, rfl, rfl, hk⟩ := hrel
    have hs := Inp.sum_le I HBT.out k hk
    by_cases h : k < I.n0
    · have e1 : (k : Int) < (I.n0 : Int) := by omega
      obtain ⟨b, o, ha0, c1⟩ := HI.out.t k h
      have ht := HBT.out k h
      obtain ⟨S, hS⟩ : ∃ S, S = I.sum k := ⟨_, rfl⟩
      have HS : Hid (I.sum (k + 1) = S + I.tl k) := by rw [hS]; exact rfl
      rw [← hS] at hs ⊢
      rw [ha0]
      clear hS
      go_wp2
      exact ⟨⟨k + 1, by rw [HS.out]; go_num, by go_num, by omega⟩, by simp [intOf]; go_num⟩
    · have e1 : ¬ (k : Int) < (I.n0 : Int) := by omega
      have ek : k = I.n0 := by omega
      obtain ⟨S, hS⟩ : ∃ S, S = I.sum k := ⟨_, rfl⟩
      have HS : Hid (S = I.sum I.n0) := by rw [hS, ek]; exact rfl
      rw [← hS] at hs ⊢
      clear hS ek
      have e2 : ¬ (64 : Int) < (I.n0 : Int) := by omega
      by_cases h1 : S ≤ 4096
      · have e3 : ¬ (4096 : Int) < (S : Int) := by omega
        by_cases h2 : I.n1 ≤ 1024
        · have e4 : ¬ (1024 : Int) < (I.n1 : Int) := by omega
          by_cases h3 : I.n5 ≤ 4096
          · have e5 : ¬ (4096 : Int) < (I.n5 : Int) := by omega
            have HSM : Hid I.Sm := ⟨hn, h2, h3, fun i hi => by have h6 := I.tl_le I.n0 i hi; have h7 := HS.out; omega⟩
            go_upto_if 85 with fail
            rename_i Kn hKn
            have HKN : Hid (∀ a w, Code.wp Ybad.prog rest9 (bodyPost Ybad.prog Ybad.f3 (lawPost w0)) a w → Kn a w) := hKn
            clear hKn
            go_wp2
            exact HKN.out _ _ (s9 I HSM.out w0 HI.out)
          · have e5 : (4096 : Int) < (I.n5 : Int) := by omega
            go_wp2
            go_ret
            exact ⟨rfl, Below.refl _ _⟩
        · have e4 : (1024 : Int) < (I.n1 : Int) := by omega
          go_wp2
          go_ret
          exact ⟨rfl, Below.refl _ _⟩
      · have e3 : (4096 : Int) < (S : Int) := by omega
        go_wp2
        go_ret
        exact ⟨rfl, Below.refl _ _⟩
theorem law_any (I : Inp) (w0 : World) (hI : I.At w0) (hb0 : I.n0 ≤ 17592186044416) (hbt : ∀ i, i < I.n0 → I.tl i ≤ 281474976710656) :
    Calls Ybad.prog 3 #[.slice I.a0 I.n0 I.k0, .slice I.a1 I.n1 I.k1, .int .u8 (I.per : Nat), .int .u64 (I.lv : Nat), .slice I.a4 I.n4 I.k4, .slice I.a5 I.n5 I.k5] w0 fun e w' => e = .returned (.bool true) ∧ Below w0.heap.size w0 w' := by
  by_cases h : 64 < I.n0
  · exact law_many I w0 hI hb0 h
  · exact law_few I w0 hI (by omega) hbt
end Go.Proofs.YbulkdhcgDoor
