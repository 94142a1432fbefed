/-
  THE WALK of LawS5413CWhole.
-/
import Derived.Test.YbulkdhbsWalks
import Derived.Deep.CutBlock
import Derived.Deep.Light
namespace Go.Proofs.Ybulkdhbs
open Go.RowKit

theorem Chain.form {w : World} {base : Value} {b : Bool} (hb : IsBase base b) : ∀ (n : Nat) (v : Value), Chain w base n v → v = .nilIface ∨ ∃ t p, v = .iface t (.pointer p)
  | 0, v, h => by
    have h' : v = base := h
    subst h'
    rcases hb with ⟨_, t, p, _, e⟩ | ⟨_, e | ⟨t, p, _, e⟩⟩
    · exact Or.inr ⟨t, p, e⟩
    · exact Or.inl e
    · exact Or.inr ⟨t, p, e⟩
  | _ + 1, _, ⟨t, _, _, _, e, _, _⟩ => Or.inr ⟨t, _, e⟩

set_option maxHeartbeats 1000000 in
theorem law_any (a0 : Option Addr) (len cap : Nat) (f : Nat → Int) (base : Int) (nm : ByteArray) (w : World) (hlen : len ≤ 1048576)
    (hc : ∀ k, k < len → ∃ b off, a0 = some ⟨b, off, none⟩ ∧ w.cell? ⟨b, off + k, none⟩ = some (.int .u8 (f k)))
    (hf : ∀ k, k < len → 0 ≤ f k ∧ f k ≤ 255) (b0 : 0 ≤ base) (b1 : base ≤ 255) :
    Calls Yba.prog 3 #[.slice a0 len cap, .int .u8 base, .string nm] w fun e w' => e = .returned (.bool true) ∧ Below w.heap.size w w' := by
  have HC : Hid (∀ k, k < len → ∃ b off, a0 = some ⟨b, off, none⟩ ∧ w.cell? ⟨b, off + k, none⟩ = some (.int .u8 (f k))) := hc
  have HF : Hid (∀ k, k < len → 0 ≤ f k ∧ f k ≤ 255) := hf
  clear hc hf
  go_enter Yba.func3, Yba.ntmps3
  go_upto_block 0 with fail
  go_cut [7, 8] (fun t q wc => ∃ b, q = .bool b ∧ IsBase t b ∧ Below w.heap.size w wc)
  case first =>
    go_wp2
    · go_meet
      case rel => exact ⟨true, rfl, Or.inl ⟨rfl, 25, _, Or.inl rfl, rfl⟩, (Below.refl _ _).alloc (Nat.le_refl _) _⟩
    · go_meet
      case rel => exact ⟨true, rfl, Or.inl ⟨rfl, 31, _, Or.inr (Or.inl rfl), rfl⟩, (Below.refl _ _).alloc (Nat.le_refl _) _⟩
    · go_meet
      case rel => exact ⟨true, rfl, Or.inl ⟨rfl, 35, _, Or.inr (Or.inr rfl), rfl⟩, (Below.refl _ _).alloc (Nat.le_refl _) _⟩
    · go_meet
      case rel => exact ⟨false, rfl, Or.inr ⟨rfl, Or.inr ⟨39, _, Or.inl rfl, rfl⟩⟩, (Below.refl _ _).alloc (Nat.le_refl _) _⟩
    · go_meet
      case rel => exact ⟨false, rfl, Or.inr ⟨rfl, Or.inl rfl⟩, Below.refl _ _⟩
    · go_meet
      case rel => exact ⟨false, rfl, Or.inr ⟨rfl, Or.inr ⟨44, _, Or.inr rfl, rfl⟩⟩, (Below.refl _ _).alloc (Nat.le_refl _) _⟩
    · go_meet
      case rel => exact ⟨true, rfl, Or.inl ⟨rfl, 25, _, Or.inl rfl, rfl⟩, Below.refl _ _⟩
  case rest =>
    obtain ⟨b, rfl, hb, hbel⟩ := hcut
    obtain ⟨vb, rfl⟩ : ∃ x, x = u7 := ⟨_, rfl⟩
    have HB : Hid (IsBase vb b) := hb
    have HW : Hid (Below w.heap.size w wc) := hbel
    clear hb hbel
    go_wp2_with fail
    go_loopg [7, 10] len (fun g t i wr => ∃ k : Nat, k + g = len ∧ i = .int .i64 k ∧ Chain wr vb k t ∧ Below w.heap.size w wr)
    case atStart => exact ⟨0, by omega, rfl, rfl, HW.out⟩
    case round =>
      obtain ⟨k, hk, rfl, hch, hbel⟩ := hrel
      have HCH : Hid (Chain wr vb k u7) := hch
      have HBE : Hid (Below w.heap.size w wr) := hbel
      by_cases hlt : k < len
      · obtain ⟨b', off, rfl, hcell⟩ := HC.out k hlt
        have hcell' : wr.cell? ⟨b', off + k, none⟩ = some (.int .u8 (f k)) := by
          rw [hbel.cell (p := ⟨b', off + k, none⟩) (World.block_lt_of_cell? w _ hcell)]; exact hcell
        obtain ⟨f0, f1⟩ := HF.out k hlt
        clear hch hbel hcell
        rcases Chain.form HB.out k u7 HCH.out with rfl | ⟨t, p, rfl⟩
        all_goals
          go_wp2
        all_goals
          go_roundg (gk - 1)
          case measure => omega
          case rel => exact ⟨k + 1, by omega, by go_num, Chain.wrap HCH.out _ _ (by simp), HBE.out.alloc HBE.out.size _⟩
      · obtain rfl : k = len := by omega
        clear hch hbel
        go_wp2_with fail
        refine (input_any k u7 vb b HB.out wr HCH.out).mono ?_
        rintro e w' ⟨rfl, rfl⟩
        cases b
        all_goals
          go_wp2
          go_ret
          exact ⟨rfl, HBE.out⟩

theorem law_great (a0 : Option Addr) (len cap : Nat) (base : Int) (nm : ByteArray) (w : World) (hlen : 1048576 < len) :
    Calls Yba.prog 3 #[.slice a0 len cap, .int .u8 base, .string nm] w fun e w' => e = .returned (.bool true) ∧ Below w.heap.size w w' := by
  go_enter Yba.func3, Yba.ntmps3
  go_wp2_with fail
  go_ret
  exact ⟨rfl, Below.refl _ _⟩
end Go.Proofs.Ybulkdhbs
