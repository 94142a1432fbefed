/-
  The iterator 'pieces'.
-/
import Derived.Test.YbulkdhcgDoorText
import Derived.Stop.RegionWithIn
import Derived.TacticsInMore
import Derived.LoopIn
import Derived.OwnWalkIn
namespace Go.Proofs.YbulkdhcgDoor
open Go.RowKit
attribute [local go_sem] Oper.semAt_some

theorem wide_fn (f : FuncId) : Fence.wide.fn f = True := rfl
theorem wide_depth : (Fence.wide.depth = none) = True := eq_true rfl
theorem wide_fn_in (l : Nat) (f : FuncId) : (Fence.wide.inRound l).fn f = True := rfl
theorem wide_depth_in (l : Nat) : ((Fence.wide.inRound l).depth = none) = True := eq_true rfl
theorem grown_drew (W : World) : W.grownBy W.drew none := ⟨rfl, rfl, rfl, Nat.le_refl _, fun _ _ _ => rfl⟩
theorem grown_drewN (W : World) (n : Nat) : W.grownBy (W.drewN n) none := ⟨rfl, rfl, rfl, Nat.le_refl _, fun _ _ _ => rfl⟩
theorem own_drew {β : Type} {B : Nat} {J : β → World → Prop} (h : OwnFrom B J) {s : β} {W : World} (hs : J s W) : J s W.drew := h s W _ none hs (grown_drew W) (fun r e => by cases e)
theorem own_drewN {β : Type} {B : Nat} {J : β → World → Prop} (h : OwnFrom B J) {s : β} {W : World} (hs : J s W) (n : Nat) : J s (W.drewN n) := h s W _ none hs (grown_drewN W n) (fun r e => by cases e)

/-- the pieces of the characters from k up q q, stretch i on. -/
def pcs (t : Mk) (q : Nat) : Nat → Nat → Nat → List (Nat × Nat × Nat)
  | 0, _, _ => []
  | d + 1, i, k => if q ≤ t.next i then [(i, k, q)] else (i, k, t.next i) :: pcs t q d (i + 1) (t.next i)
/-- what yield is handed. -/
def penc (t : Mk) (bb bcap : Nat) (x : Nat × Nat × Nat) : Array Value := #[.slice (some ⟨bb, t.off x.2.1, none⟩) (t.off x.2.2 - t.off x.2.1) (bcap - t.off x.2.1), .bool (t.mw x.1)]

theorem Mk.Ok.ex {t : Mk} (h : t.Ok) (k : Nat) : ∀ d, d + 1 ≤ t.m → ∃ i, i < d + 1 ∧ t.mn i ≤ k ∧ (i + 1 < d + 1 → k < t.mn (i + 1))
  | 0, hd => ⟨0, by omega, by rw [h.zero]; omega, fun h => by omega⟩
  | d + 1, hd => by
    obtain ⟨i, hi, h1, h2⟩ := Mk.Ok.ex h k d (by omega)
    by_cases e : t.mn (d + 1) ≤ k
    · exact ⟨d + 1, by omega, e, fun h => by omega⟩
    · refine ⟨i, by omega, h1, fun h3 => ?_⟩
      by_cases e2 : i + 1 < d + 1
      · exact h2 e2
      · have : i = d := by omega
        subst this; omega
theorem Mk.Ok.find {t : Mk} (h : t.Ok) (k : Nat) (hk : k < t.n) : ∃ i, i < t.m ∧ t.mn i ≤ k ∧ k < t.next i := by
  have hp := h.pos
  obtain ⟨i, hi, h1, h2⟩ := h.ex k (t.m - 1) (by omega)
  refine ⟨i, by omega, h1, ?_⟩
  unfold Mk.next
  split
  · exact h2 (by omega)
  · exact hk
theorem Mk.Ok.uniq {t : Mk} (h : t.Ok) {i j k : Nat} (hi : i < t.m) (hj : j < t.m) (h1 : t.mn i ≤ k) (h2 : k < t.next i) (h3 : t.mn j ≤ k) (h4 : k < t.next j) : i = j := by
  have key : ∀ a b, a < b → b < t.m → t.mn b ≤ k → k < t.next a → False := fun a b hab hb h5 h6 => by
    unfold Mk.next at h6
    rw [if_pos (by omega)] at h6
    by_cases e : a + 1 = b
    · rw [e] at h6; omega
    · have := h.mnlt' (i := a + 1) (j := b) (by omega) hb; omega
  rcases Nat.lt_trichotomy i j with h5 | h5 | h5
  · exact (key i j h5 hj h3 h2).elim
  · exact h5
  · exact (key j i h5 hi h1 h4).elim

/-- the pieces lie one behind the other. -/
def Cover : List (Nat × Nat × Nat) → Nat → Nat → Prop
  | [], a, b => a = b
  | x :: r, a, b => x.2.1 = a ∧ a < x.2.2 ∧ x.2.2 ≤ b ∧ Cover r x.2.2 b
theorem pcs_cover {t : Mk} (h : t.Ok) (q : Nat) (hto : q ≤ t.n) : ∀ d i k, t.m - i = d → i < t.m → t.mn i ≤ k → k < t.next i → k < q → Cover (pcs t q d i k) k q
  | 0, i, k, hd, hi, _, _, _ => by omega
  | d + 1, i, k, hd, hi, h1, h2, h3 => by
    unfold pcs
    split
    · exact ⟨rfl, h3, Nat.le_refl _, rfl⟩
    · rename_i hlt
      have hi1 : i + 1 < t.m := by
        by_cases e : i + 1 < t.m
        · exact e
        · have : t.next i = t.n := by unfold Mk.next; rw [if_neg e]
          omega
      have e1 : t.next i = t.mn (i + 1) := by unfold Mk.next; rw [if_pos hi1]
      refine ⟨rfl, h2, by show t.next i ≤ q; omega, ?_⟩
      show Cover _ (t.next i) q
      exact pcs_cover h q hto d (i + 1) (t.next i) (by omega) hi1 (by omega) (by rw [e1]; exact h.step _ hi1) (by omega)

theorem flat_off {t : Mk} (h : t.Ok) {i k : Nat} (hi : i < t.m) (hw : t.mw i = false) (h1 : t.mn i ≤ k) : ∀ j, k + j ≤ t.next i → t.off (k + j) = t.off k + j
  | 0, _ => rfl
  | j + 1, hj => by
    have h2 := flat_off h hi hw h1 j (by omega)
    have h3 := h.flat i hi hw (k + j) (by omega) (by omega)
    rw [← Nat.add_assoc, h3, h2]; omega
end Go.Proofs.YbulkdhcgDoor
