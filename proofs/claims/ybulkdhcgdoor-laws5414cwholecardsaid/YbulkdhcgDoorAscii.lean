/-
  asciiLen; the law's six characters.
-/
import Derived.Test.YbulkdhcgDoorAddC
namespace Go.Proofs.YbulkdhcgDoor
open Go.RowKit

/-- byte j of l. -/
def yo (l : List UInt8) (j : Nat) : Int := ((l.getD j 0).toNat : Int)
theorem yo_lt (l : List UInt8) (j : Nat) : 0 ≤ yo l j ∧ yo l j ≤ 255 := by
  unfold yo
  have := (l.getD j 0).toNat_lt
  omega
theorem yo_drop (l : List UInt8) (i j : Nat) : yo (l.drop i) j = yo l (i + j) := by
  unfold yo; simp [List.getD_eq_getElem?_getD]
/-- the string of l. -/
def st (l : List UInt8) : ByteArray := ⟨l.toArray⟩
theorem st_size (l : List UInt8) : (st l).size = l.length := by unfold st; simp [ByteArray.size]
theorem st_index (l : List UInt8) {k : Nat} (h : k < l.length) (W : World) : (Instr.index 9 (.string (st l)) (.int .i64 k)).run Ybad.prog W = .ok (.int .u8 (yo l k)) W := by
  rw [run_index_string W 9 (st l) .i64 _ Ybad.underlying9, dif_pos ⟨by omega, by rw [st_size]; omega⟩]
  have e : (st l)[((k : Int)).toNat]'(by rw [st_size]; omega) = l.getD k 0 := by
    have h2 : ((k : Int)).toNat = k := by omega
    simp only [h2]
    unfold st
    simp [ByteArray.getElem_eq_getElem_data, List.getD_eq_getElem?_getD, h]
  unfold yo
  rw [← e]

/-- how many bytes of ASCII stand ahead. -/
structure Asc (l : List UInt8) (k : Nat) : Prop where
  le : k ≤ l.length
  all : ∀ j, j < k → yo l j < 128
  stop : k < l.length → 128 ≤ yo l k

set_option maxHeartbeats 1000000 in
theorem asciiLen_any (l : List UInt8) (w : World) (hs : l.length ≤ 65536) :
    Calls Ybad.prog 10 #[.string (st l)] w fun e w' => (∃ k : Nat, e = .returned (.int .i64 k) ∧ Asc l k) ∧ w' = w := by
  have hz := st_size l
  obtain ⟨s, hS⟩ : ∃ s, s = st l := ⟨_, rfl⟩
  obtain ⟨N, hN⟩ : ∃ N, N = l.length := ⟨_, rfl⟩
  have HS : Hid (s = st l) := hS
  have HN : Hid (N = l.length) := hN
  rw [← hS, ← hN] at hz
  rw [← hN] at hs
  rw [← hS]
  clear hS hN
  go_enter Ybad.func10, Ybad.ntmps10
  go_wp2
  go_loop [3] (fun i => ∃ k : Nat, i = .int .i64 k ∧ k ≤ N ∧ ∀ j, j < k → yo l j < 128) (fun i => N - (intOf i).toNat)
  case atStart => exact ⟨0, rfl, by omega, fun j hj => by omega⟩
  case round =>
    obtain ⟨k, rfl, hk, ha⟩ := hrel
    have HA : Hid (∀ j, j < k → yo l j < 128) := ha
    clear ha
    by_cases h : k < N
    · have e1 : (k : Int) < (N : Int) := by omega
      have hix : ∀ W, (Instr.index 9 (.string s) (.int .i64 k)).run Ybad.prog W = .ok (.int .u8 (yo l k)) W := by rw [HS.out]; exact st_index l (by rw [← HN.out]; exact h)
      by_cases h2 : yo l k < 128
      · have HL : Hid (yo l k < 128) := h2
        have e2 : ¬ 128 ≤ yo l k := by omega
        clear h2
        go_wp2
        go_round
        case rel => exact ⟨k + 1, by go_num, by omega, fun j hj => by
          by_cases e : j = k
          · rw [e]; exact HL.out
          · exact HA.out j (by omega)⟩
        case measure => simp [intOf]; go_num
      · have e2 : 128 ≤ yo l k := by omega
        clear h2
        go_wp2
        go_ret
        exact ⟨⟨k, rfl, by rw [← HN.out]; exact hk, HA.out, fun _ => e2⟩, rfl⟩
    · have e1 : ¬ (k : Int) < (N : Int) := by omega
      go_wp2
      go_ret
      have e : k = N := by omega
      rw [e] at HA
      exact ⟨⟨N, rfl, by rw [← HN.out]; exact Nat.le_refl _, HA.out, fun h => by rw [← HN.out] at h; omega⟩, rfl⟩

/-- the six characters. -/
def chN : Nat → List UInt8
  | 0 => [97]
  | 1 => [98]
  | 2 => [99]
  | 3 => [195, 169]
  | 4 => [226, 130, 172]
  | _ => [240, 157, 132, 158]
def ch (c : Nat) : List UInt8 := chN (c % 6)

theorem char_any (c : Nat) (w : World) :
    Calls Ybad.prog 4 #[.int .u8 c] w fun e w' => e = .returned (.string (st (ch c))) ∧ w' = w := by
  obtain ⟨r, hr⟩ : ∃ r, r = c % 6 := ⟨_, rfl⟩
  have hl : r < 6 := by omega
  unfold ch
  rw [← hr]
  have e1 : (c : Int) % 6 = (r : Int) := by omega
  clear hr
  match r, hl, e1 with
  | 0, _, e1 =>
    go_enter Ybad.func4, Ybad.ntmps4
    go_wp2
    go_ret
    exact ⟨rfl, rfl⟩
  | 1, _, e1 =>
    go_enter Ybad.func4, Ybad.ntmps4
    go_wp2
    go_ret
    exact ⟨rfl, rfl⟩
  | 2, _, e1 =>
    go_enter Ybad.func4, Ybad.ntmps4
    go_wp2
    go_ret
    exact ⟨rfl, rfl⟩
  | 3, _, e1 =>
    go_enter Ybad.func4, Ybad.ntmps4
    go_wp2
    go_ret
    exact ⟨rfl, rfl⟩
  | 4, _, e1 =>
    go_enter Ybad.func4, Ybad.ntmps4
    go_wp2
    go_ret
    exact ⟨rfl, rfl⟩
  | 5, _, e1 =>
    go_enter Ybad.func4, Ybad.ntmps4
    go_wp2
    go_ret
    exact ⟨rfl, rfl⟩
end Go.Proofs.YbulkdhcgDoor
