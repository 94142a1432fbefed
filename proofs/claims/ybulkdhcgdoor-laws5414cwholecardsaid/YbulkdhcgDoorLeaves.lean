/-
  THE WALKS of LawS5414CWhole's small callees: seqLen, asciiLen, pastChars, stretch.
-/
import Derived.Test.YbulkdhcgDoorRows
import Derived.Test.YbulkdhcgDoorRange
import Derived.WalkKit
import Derived.WalkSpells
import Derived.RowKit3
import Derived.Below
import Derived.WalkSmall
import Derived.Deep.LoopGhost
import Derived.Deep.DeepCutAuto
import Derived.Deep.CutBlock
import Derived.Deep.QuietTactic
import Derived.BigQuiet
import Derived.Deep.MidRow
namespace Go.Proofs.YbulkdhcgDoor
open Go.RowKit

/-- how long the character is whose first byte is c. -/
def sl (c : Int) : Nat := if c < 128 then 1 else if c < 224 then 2 else if c < 240 then 3 else 4
theorem sl_pos (c : Int) : 1 ≤ sl c := by unfold sl; split <;> (try split) <;> (try split) <;> omega
theorem sl_le (c : Int) : sl c ≤ 4 := by unfold sl; split <;> (try split) <;> (try split) <;> omega

theorem seqLen_any (c : Int) (w : World) :
    Calls Ybad.prog 11 #[.int .u8 c] w fun e w' => e = .returned (.int .i64 (sl c)) ∧ w' = w := by
  by_cases h1 : c < 128
  · have e : sl c = 1 := by unfold sl; rw [if_pos h1]
    rw [e]
    go_enter Ybad.func11, Ybad.ntmps11
    go_wp2
    go_ret
    exact ⟨rfl, rfl⟩
  · by_cases h2 : c < 224
    · have e : sl c = 2 := by unfold sl; rw [if_neg h1, if_pos h2]
      rw [e]
      go_enter Ybad.func11, Ybad.ntmps11
      go_wp2
      go_ret
      exact ⟨rfl, rfl⟩
    · by_cases h3 : c < 240
      · have e : sl c = 3 := by unfold sl; rw [if_neg h1, if_neg h2, if_pos h3]
        rw [e]
        go_enter Ybad.func11, Ybad.ntmps11
        go_wp2
        go_ret
        exact ⟨rfl, rfl⟩
      · have e : sl c = 4 := by unfold sl; rw [if_neg h1, if_neg h2, if_neg h3]
        rw [e]
        go_enter Ybad.func11, Ybad.ntmps11
        go_wp2
        go_ret
        exact ⟨rfl, rfl⟩

/-- block b holds the bytes 'by' up to n. -/
def Bytes (w : World) (b n : Nat) (y : Nat → Int) : Prop := ∀ j, j < n → w.cell? ⟨b, j, none⟩ = some (.int .u8 (y j))
/-- where the characters stand: n of them. -/
structure Offs (y : Nat → Int) (off : Nat → Nat) (n : Nat) : Prop where
  zero : off 0 = 0
  succ : ∀ k, k < n → off (k + 1) = off k + sl (y (off k))

theorem Offs.lt {y : Nat → Int} {off : Nat → Nat} {n : Nat} (h : Offs y off n) : ∀ d k, k + d + 1 ≤ n → off k < off (k + d + 1)
  | 0, k, hk => by rw [h.succ k (by omega)]; have := sl_pos (y (off k)); omega
  | d + 1, k, hk => by
    have := h.lt d k (by omega)
    have e := h.succ (k + d + 1) (by omega)
    have := sl_pos (y (off (k + d + 1)))
    have e2 : k + (d + 1) + 1 = k + d + 1 + 1 := by omega
    rw [e2, e]; omega
theorem Offs.mono {y : Nat → Int} {off : Nat → Nat} {n : Nat} (h : Offs y off n) {i j : Nat} (hi : i ≤ j) (hj : j ≤ n) : off i ≤ off j := by
  by_cases e : i = j
  · rw [e]; exact Nat.le_refl _
  · have := h.lt (j - i - 1) i (by omega)
    have e2 : i + (j - i - 1) + 1 = j := by omega
    rw [e2] at this; omega
theorem Offs.strict {y : Nat → Int} {off : Nat → Nat} {n : Nat} (h : Offs y off n) {i j : Nat} (hi : i < j) (hj : j ≤ n) : off i < off j := by
  have := h.lt (j - i - 1) i (by omega)
  have e2 : i + (j - i - 1) + 1 = j := by omega
  rw [e2] at this; exact this

set_option maxHeartbeats 1000000 in
theorem pastChars_any (b len cap : Nat) (y : Nat → Int) (off : Nat → Nat) (n i k : Nat) (w : World) (hb : Bytes w b len y) (ho : Offs y off n) (hn : off n = len) (hl : len ≤ 1048576) (hk : i + k ≤ n) (hn2 : n ≤ 1048576) :
    Calls Ybad.prog 27 #[.slice (some ⟨b, 0, none⟩) len cap, .int .i64 (off i), .int .u32 k] w fun e w' => e = .returned (.int .i64 (off (i + k))) ∧ w' = w := by
  have HB : Hid (Bytes w b len y) := hb
  have HO : Hid (Offs y off n) := ho
  have HN : Hid (off n = len) := hn
  clear hb ho hn
  go_enter Ybad.func27, Ybad.ntmps27
  go_wp2
  go_loop [1, 2] (fun a c => ∃ d : Nat, d ≤ k ∧ a = .int .i64 (off (i + (k - d))) ∧ c = .int .u32 d) (fun _ c => (intOf c).toNat)
  case atStart => exact ⟨k, Nat.le_refl _, by rw [Nat.sub_self]; rfl, rfl⟩
  case round =>
    obtain ⟨d, hd, rfl, rfl⟩ := hrel
    by_cases h0 : d = 0
    · subst h0
      go_wp2
      go_ret
      exact ⟨rfl, rfl⟩
    · have hlt : off (i + (k - d)) < len := by rw [← HN.out]; exact HO.out.strict (by omega) (Nat.le_refl _)
      have hs := HO.out.succ (i + (k - d)) (by omega)
      have hle : off (i + (k - d) + 1) ≤ len := by rw [← HN.out]; exact HO.out.mono (by omega) (Nat.le_refl _)
      have e1 : i + (k - (d - 1)) = i + (k - d) + 1 := by omega
      obtain ⟨q, hq⟩ : ∃ q, q = off (i + (k - d)) := ⟨_, rfl⟩
      rw [← hq] at hlt hs
      have c1 : w.cell? ⟨b, q, none⟩ = some (.int .u8 (y q)) := HB.out q hlt
      have E1 : Hid (off (i + (k - (d - 1))) = q + sl (y q)) := by rw [e1]; exact hs
      rw [hs] at hle
      clear e1 hs
      have hdp : (0 : Int) < (d : Int) := by omega
      rw [← hq]
      clear hq
      go_wp2_with (go_at_call 11; refine (seqLen_any _ _).mono ?_; rintro e w' ⟨rfl, rfl⟩)
      go_round
      case rel => exact ⟨d - 1, by omega, by rw [E1.out]; go_num, by go_num⟩
      case measure => simp [intOf]; go_num
end Go.Proofs.YbulkdhcgDoor
