/-
  A region in a round, by the plain walk under a condition.
-/
import Derived.Test.YbulkdhcgDoorRound
import Derived.OrdersHeld
namespace Go.Proofs.YbulkdhcgDoor
open Go.RowKit

/-- no operation is a row of the table. -/
theorem operIn_of_wp {n : Nat} {P : Program} {o : Oper} {a : Act} {w : World} {K : Act → World → Prop} {Q : Exit → Act → World → Prop} (hd : ∀ c, o.op ≠ .defer c) (h : o.wp P a w K Q) : o.wpIn Fence.wide n P a w K Q := by
  refine ⟨fun _ _ => trivial, ?_⟩
  rw [Oper.semAt_eq _ a.eval o hd]
  unfold Oper.wp at h
  generalize (execOp a.eval o).run P w = r at *
  cases r with
  | ok x w' =>
    cases x <;> simp only [Oper.upon] at h <;> simp only [Oper.uponIn]
    case value => exact h
    case skip => exact h
    case defer => exact h
    case enter f args => exact ⟨(fun h => by cases h), callsIn_wide.2 h⟩
    case row r args =>
      exact ⟨(fun h => by cases h), fun c cs _ => let ⟨v, w', r, s⟩ := h c cs; ⟨v, w', r, stepsIn_wide.2 s⟩⟩
  | halt x w' => cases x <;> simp only [Oper.upon] at h <;> simp only [Oper.uponIn] <;> exact h

theorem wpAnyIn_of_wpAny {n : Nat} {P : Program} {md : Region.Mode} {ops : Array Oper} {Q : Exit → Act → World → Prop} (hd : noDefer ops = true) (hno : ¬ LetsOut Q) :
    ∀ (fuel : Nat) (listed : Array Bool) (a : Act) (w : World), wpAny P md ops Q fuel listed a w → wpAnyIn Fence.wide n P md ops Q fuel listed a w
  | 0, _, _, _, h => h
  | fuel + 1, _, _, _, h => ⟨h.1, fun i hi => by
      have h2 := h.2 i hi
      unfold wpOp at h2
      unfold wpOpIn
      cases ho : ops[i]? with
      | none => rw [ho] at h2; exact wpAnyIn_of_wpAny hd hno fuel _ _ _ h2
      | some o =>
        rw [ho] at h2
        simp only at h2 ⊢
        split
        · rename_i hw
          rw [if_pos hw] at h2
          rcases h2 with h2 | ⟨_, h2⟩
          · exact Oper.wpIn_mono (fun a w h => wpAnyIn_of_wpAny hd hno fuel _ a w h) (operIn_of_wp (noDefer_spec hd ho) h2)
          · exact absurd h2 hno
        · rename_i hw
          rw [if_neg hw] at h2
          exact ⟨fun _ _ => trivial, wpAnyIn_of_wpAny hd hno fuel _ _ _ h2⟩⟩

/-- a region that draws, in a round: the plain walk under a condition. -/
theorem region_held_round {l n : Nat} {P : Program} {ops : Array Oper} {Q : Exit → Act → World → Prop} {id : Nat} {a : Act} {w : World} (S : World → Prop) (hm : P.follows .mixedOrders = true) (hd : noDefer ops = true) (hno : ¬ LetsOut Q)
    (h : wpAnyH P .any ops Q S ops.size (Array.replicate ops.size false) a w.drew) : (Code.region id ops true).wpIn (Fence.wide.inRound l) n P Q a w :=
  region_round hm hd (wpAnyIn_of_wpAny hd hno _ _ _ _ (wpAny_of_held _ _ _ _ h))
end Go.Proofs.YbulkdhcgDoor
