/-
  A region in a round, by its walk at the wide fence.
-/
import Derived.Test.YbulkdhcgDoorRange
import Derived.OrdersIn
import Derived.TacticsIn
import Derived.RegionIn
namespace Go.Proofs.YbulkdhcgDoor
open Go.RowKit

/-- no operation of these is a defer. -/
def noDefer (ops : Array Oper) : Bool := ops.toList.all fun o => match o.op with | .defer _ => false | _ => true
theorem noDefer_spec {ops : Array Oper} (h : noDefer ops = true) {i : Nat} {o : Oper} (ho : ops[i]? = some o) : ∀ c, o.op ≠ .defer c := by
  intro c hc
  have hm : o ∈ ops.toList := Array.mem_toList_iff.2 (Array.mem_of_getElem? ho)
  have := (List.all_eq_true.1 h) o hm
  rw [hc] at this
  cases this

theorem wpOpIn_round {F : Fence} {n l : Nat} {P : Program} {ops : Array Oper} {Q : Exit → Act → World → Prop} {i : Nat} {K : Act → World → Prop} {a : Act} {w : World} (hd : noDefer ops = true)
    (h : wpOpIn F n P ops Q i K a w) : wpOpIn (F.inRound l) n P ops Q i K a w := by
  unfold wpOpIn at h ⊢
  cases ho : ops[i]? with
  | none => rw [ho] at h; exact h
  | some o =>
    rw [ho] at h
    simp only at h ⊢
    split
    · rename_i hw
      rw [if_pos hw] at h
      unfold Oper.wpIn at h ⊢
      refine ⟨h.1, ?_⟩
      have h2 := h.2
      rw [Oper.semAt_eq F.round a.eval o (noDefer_spec hd ho)] at h2
      rw [Oper.semAt_eq (F.inRound l).round a.eval o (noDefer_spec hd ho)]
      exact h2
    · rename_i hw
      rw [if_neg hw] at h
      exact h
theorem wpAnyIn_round {F : Fence} {n l : Nat} {P : Program} {md : Region.Mode} {ops : Array Oper} {Q : Exit → Act → World → Prop} (hd : noDefer ops = true) :
    ∀ (fuel : Nat) (listed : Array Bool) (a : Act) (w : World), wpAnyIn F n P md ops Q fuel listed a w → wpAnyIn (F.inRound l) n P md ops Q fuel listed a w
  | 0, _, _, _, h => h
  | fuel + 1, _, _, _, h => ⟨h.1, fun i hi => wpOpIn_round hd (wpOpIn_mono (fun a w h => wpAnyIn_round hd fuel _ a w h) (h.2 i hi))⟩

/-- a region that draws, in a round. -/
theorem region_round {F : Fence} {n l : Nat} {P : Program} {ops : Array Oper} {Q : Exit → Act → World → Prop} {id : Nat} {a : Act} {w : World} (hm : P.follows .mixedOrders = true) (hd : noDefer ops = true)
    (h : wpAnyIn F n P .any ops Q ops.size (Array.replicate ops.size false) a w.drew) : (Code.region id ops true).wpIn (F.inRound l) n P Q a w :=
  wpIn_region_any hm (wpAnyIn_round hd _ _ _ _ h)
end Go.Proofs.YbulkdhcgDoor
