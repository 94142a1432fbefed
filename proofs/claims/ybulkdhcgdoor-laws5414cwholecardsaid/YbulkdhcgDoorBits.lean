/-
  Bits: TrailingZeros64, hasBit, has.
-/
import Derived.Test.YbulkdhcgDoorLeaves
import Derived.Shelf.Spec.TrailingZeros
namespace Go.Proofs.YbulkdhcgDoor
open Go.RowKit

/-- the table of math/bits. -/
def Tab (w : World) : Prop := ∀ j, j < 64 → w.cell? ⟨0, j, none⟩ = some (.int .u8 ((Lib.deBruijn64tab.getD j 0 : Nat) : Int))

set_option maxHeartbeats 1000000 in
theorem tz_core (x k idx : Nat) (w : World) (hx0 : ((x : Int) == 0) = false)
    (key : IntKind.u64.wrap (bits BinOp.and IntKind.u64 (x : Int) (IntKind.u64.wrap (-(x : Int))) * 285870213051353865) / 288230376151711744 = (idx : Int))
    (hi : idx < 64) (hk : k < 64) (hcell : w.cell? ⟨0, idx, none⟩ = some (.int .u8 (k : Nat))) :
    Calls Ybad.prog 18 #[.int .u64 x] w fun e w' => e = .returned (.int .i64 k) ∧ w' = w := by
  go_enter Ybad.func18, Ybad.ntmps18
  go_wp2_with (simp only [key])
  go_ret
  exact ⟨rfl, rfl⟩
theorem tz_zero (w : World) : Calls Ybad.prog 18 #[.int .u64 0] w fun e w' => e = .returned (.int .i64 64) ∧ w' = w := by
  go_enter Ybad.func18, Ybad.ntmps18
  go_wp2
  go_ret
  exact ⟨rfl, rfl⟩
theorem tz_any (x : Nat) (hx : x < 18446744073709551616) (w : World) (hT : Tab w) :
    Calls Ybad.prog 18 #[.int .u64 x] w fun e w' => e = .returned (.int .i64 ((Lib.ctz 64 x : Nat) : Int)) ∧ w' = w := by
  by_cases hx0 : x = 0
  · subst hx0
    exact tz_zero w
  · obtain ⟨hlow, hk⟩ := Lib.lowest_bit 64 x hx0 hx
    obtain ⟨hi, htab⟩ := Lib.deBruijn64_at _ hk
    have hcell := hT _ hi
    rw [htab] at hcell
    exact tz_core x _ _ w (by simp; omega) (tz64_key x _ hx hx0 hlow) hi hk hcell

/-- a row of words: block b0, n of them. -/
structure Words (w : World) (a : Option Addr) (n : Nat) (wd : Nat → Nat) : Prop where
  at0 : 0 < n → ∃ b, a = some ⟨b, 0, none⟩
  cell : ∀ j, j < n → ∀ b, a = some ⟨b, 0, none⟩ → w.cell? ⟨b, j, none⟩ = some (.int .u64 (wd j))
  lt : ∀ j, wd j < 18446744073709551616
/-- is the bit set? -/
def bitAt (n : Nat) (wd : Nat → Nat) (x : Nat) : Bool := decide (x / 64 < n) && (wd (x / 64)).testBit (x % 64)

theorem nat_and_pow (v k : Nat) : v &&& 2 ^ k = if v.testBit k then 2 ^ k else 0 := by
  apply Nat.eq_of_testBit_eq
  intro i
  rw [Nat.testBit_and, Nat.testBit_two_pow]
  by_cases e : k = i
  · subst e
    cases h : v.testBit k
    · simp
    · simp
  · cases h : v.testBit k
    · simp [e]
    · simp [e]
theorem pow_lt64 {k : Nat} (hk : k < 64) : 2 ^ k < 18446744073709551616 := by have := Nat.pow_lt_pow_right (a := 2) (by omega) hk; simpa using this
theorem wrap_pow {k : Nat} (hk : k < 64) : IntKind.u64.wrap ((2 : Int) ^ k) = ((2 ^ k : Nat) : Int) := by
  have h := pow_lt64 hk
  have e : ((2 : Int) ^ k) = ((2 ^ k : Nat) : Int) := by simp
  rw [e, IntKind.wrap_u64]
  obtain ⟨z, hz⟩ : ∃ z, z = 2 ^ k := ⟨_, rfl⟩
  rw [← hz] at h ⊢
  omega
theorem and_pow (v k : Nat) (hv : v < 18446744073709551616) (hk : k < 64) : (bits .and .u64 (v : Int) (IntKind.u64.wrap ((2 : Int) ^ k)) != 0) = v.testBit k := by
  rw [wrap_pow hk, bits_and_u64_nat v (2 ^ k) hv (pow_lt64 hk), nat_and_pow]
  have := Nat.two_pow_pos k
  cases v.testBit k
  · simp
  · have h : ((2 ^ k : Nat) : Int) ≠ 0 := by omega
    simp only [if_true, bne, beq_eq_false_iff_ne.2 h, Bool.not_false]

set_option maxHeartbeats 1000000 in
theorem hasBit_any (a : Option Addr) (n cap : Nat) (wd : Nat → Nat) (x : Nat) (hx : x < 4294967296) (w : World) (hn : n ≤ 1048576) (hw : Words w a n wd) :
    Calls Ybad.prog 30 #[.slice a n cap, .int .u32 x] w fun e w' => e = .returned (.bool (bitAt n wd x)) ∧ w' = w := by
  unfold bitAt
  by_cases hlt : x / 64 < n
  · obtain ⟨b, rfl⟩ := hw.at0 (by omega)
    have c1 := hw.cell (x / 64) hlt b rfl
    have hv := hw.lt (x / 64)
    obtain ⟨v, hvv⟩ : ∃ v, v = wd (x / 64) := ⟨_, rfl⟩
    rw [← hvv] at c1 hv ⊢
    have key := and_pow v (x % 64) hv (by omega)
    have d1 : decide (x / 64 < n) = true := decide_eq_true hlt
    rw [d1, Bool.true_and]
    clear d1 hvv
    go_enter Ybad.func30, Ybad.ntmps30
    go_wp2
    go_ret
    exact ⟨rfl, rfl⟩
  · have d1 : decide (x / 64 < n) = false := decide_eq_false hlt
    rw [d1, Bool.false_and]
    clear d1
    go_enter Ybad.func30, Ybad.ntmps30
    go_wp2
    go_ret
    exact ⟨rfl, rfl⟩

/-- a countSet in memory, read by its lowest level alone; its blocks lie below B. -/
structure SetAt (w : World) (B bd od : Nat) (S : Nat → Bool) : Prop where
  lt : bd < B
  ex : (∃ a c, w.cell? ⟨bd, od, none⟩ = some (.slice a 0 c) ∧ ∀ x, S x = false) ∨
    (∃ bl L c a n c0 wd, w.cell? ⟨bd, od, none⟩ = some (.slice (some ⟨bl, 0, none⟩) L c) ∧ 0 < L ∧ L ≤ 1048576 ∧ w.cell? ⟨bl, 0, none⟩ = some (.slice a n c0) ∧ n ≤ 1048576 ∧ Words w a n wd ∧ (∀ x, S x = bitAt n wd x) ∧ bl < B ∧ ∀ b, a = some ⟨b, 0, none⟩ → b < B)
theorem SetAt.kept {K : Nat → Obj → Prop} {w W : World} {B bd od : Nat} {S : Nat → Bool} (h : SetAt w B bd od S) (hk : Kept K w W) (hB : ∀ b o, b < B → K b o) : SetAt W B bd od S := by
  refine ⟨h.lt, ?_⟩
  rcases h.ex with ⟨a, c, c1, hS⟩ | ⟨bl, L, c, a, n, c0, wd, c1, hL, hL2, c2, hn, hw, hS, hb1, hb2⟩
  · exact Or.inl ⟨a, c, hk.cell (fun o _ => hB _ o h.lt) c1, hS⟩
  · exact Or.inr ⟨bl, L, c, a, n, c0, wd, hk.cell (fun o _ => hB _ o h.lt) c1, hL, hL2, hk.cell (fun o _ => hB _ o hb1) c2, hn, ⟨hw.at0, fun j hj b e => hk.cell (fun o _ => hB _ o (hb2 b e)) (hw.cell j hj b e), hw.lt⟩, hS, hb1, hb2⟩

set_option maxHeartbeats 1000000 in
theorem has_any (B bd od : Nat) (S : Nat → Bool) (x : Nat) (hx : x < 4294967296) (w : World) (hs : SetAt w B bd od S) :
    Calls Ybad.prog 24 #[.pointer (some ⟨bd, od, none⟩), .int .u32 x] w fun e w' => e = .returned (.bool (S x)) ∧ w' = w := by
  rcases hs.ex with ⟨a, c, c1, hS⟩ | ⟨bl, L, c, a, n, c0, wd, c1, hL, hL2, c2, hn, hw, hS, _, _⟩
  · rw [hS]
    clear hS hs
    go_enter Ybad.func24, Ybad.ntmps24
    go_wp2
    go_ret
    exact ⟨rfl, rfl⟩
  · rw [hS]
    clear hS hs
    have HW : Hid (Words w a n wd) := hw
    clear hw
    go_enter Ybad.func24, Ybad.ntmps24
    go_wp2_with (go_at_call 30; refine (hasBit_any a n c0 wd x hx _ hn HW.out).mono ?_; rintro e w' ⟨rfl, hw⟩; obtain rfl := hw.symm)
    go_ret
    exact ⟨rfl, rfl⟩
end Go.Proofs.YbulkdhcgDoor
