/-
  The region that builds the event: an invariant for whatever order.
-/
import Derived.Test.YbulkdhacDoorEvent
namespace Go.Proofs.YbulkdhacDoor
open Go.RowKit Floats

/-- the region of number n in a code. -/
def findReg (n : Nat) : Code → Option (Array Oper)
  | .region i ops _ => if i = n then some ops else none
  | .loop c => findReg n c
  | .seq a b => match findReg n a with
    | some c => some c
    | none => findReg n b
  | .block _ c => findReg n c
  | .scope c => findReg n c
  | .cond _ a b => match findReg n a with
    | some c => some c
    | none => findReg n b
  | _ => none
noncomputable def opsR : Array Oper := (Ybad.f3.body.bind (findReg 11)).getD #[]
theorem opsR_size : opsR.size = 93 := by kernel_rfl
theorem opsR_back : (List.range 93).all (fun i => match opsR[i]? with | some o => o.after.all (fun e => decide (e.on < i)) && o.guard.isNone | none => false) = true := by kernel_rfl

/-- an invariant over whatever order. -/
theorem wpAny_inv {P : Program} {md : Region.Mode} {ops : Array Oper} {Q : Exit → Act → World → Prop} (Inv : Array Bool → Act → World → Prop)
    (hback : ∀ (i : Nat) (o : Oper), ops[i]? = some o → ∀ e ∈ o.after, e.on < i) (hguard : ∀ (i : Nat) (o : Oper), ops[i]? = some o → o.guard = none)
    (hstep : ∀ l a w i o, Inv l a w → l.size = ops.size → l.getD i true = false → ops[i]? = some o → (∀ e ∈ o.after, Region.binds md e = true → l.getD e.on false = true) → o.wp P a w (fun a' w' => Inv (l.setIfInBounds i true) a' w') Q)
    (hend : ∀ l a w, Inv l a w → l.size = ops.size → (∀ i, i < ops.size → l.getD i false = true) → Q .normal a w) :
    ∀ (fuel : Nat) (l : Array Bool) (a : Act) (w : World), Inv l a w → l.size = ops.size → l.toList.countP (! ·) ≤ fuel → wpAny P md ops Q fuel l a w := by
  have hall : ∀ l : Array Bool, l.size = ops.size → Region.ready md ops l = [] → ∀ i, i < ops.size → l.getD i false = true := by
    intro l hl hr i
    induction i using Nat.strongRecOn with
    | ind i ih =>
      intro hi
      by_cases h : l.getD i true = false
      · have hm : i ∈ Region.ready md ops l := mem_ready.2 ⟨h, ops[i], Array.getElem?_eq_getElem hi, fun e he _ => by
          have hb := hback i _ (Array.getElem?_eq_getElem hi) e he
          exact ih e.on hb (by omega)⟩
        rw [hr] at hm; simp at hm
      · have hi' : i < l.size := by omega
        simp only [Array.getD, hi', dif_pos] at h ⊢
        simpa using h
  intro fuel
  induction fuel with
  | zero =>
    intro l a w hI hl hc
    have hr : Region.ready md ops l = [] := by
      rw [List.eq_nil_iff_forall_not_mem]
      intro i hi
      obtain ⟨h0, _⟩ := mem_ready.1 hi
      have hz : l.toList.countP (! ·) = 0 := by omega
      rw [List.countP_eq_zero] at hz
      by_cases hi' : i < l.size
      · have h1 : l[i] = false := by simpa [Array.getD, hi'] using h0
        exact hz _ (Array.mem_toList_iff.2 (Array.getElem_mem hi')) (by rw [h1]; rfl)
      · simp [Array.getD, hi'] at h0
    exact ⟨hr, hend l a w hI hl (hall l hl hr)⟩
  | succ fuel ih =>
    intro l a w hI hl hc
    refine ⟨fun hr => hend l a w hI hl (hall l hl hr), fun i hi => ?_⟩
    obtain ⟨h0, o, ho, hd⟩ := mem_ready.1 hi
    have hi' : i < l.size := by
      by_cases h : i < l.size
      · exact h
      · simp [Array.getD, h] at h0
    unfold wpOp
    simp only [ho, Region.wanted, hguard i o ho, if_true]
    refine .inl (Oper.wp_mono (fun a' w' h' => ih _ a' w' h' (by simpa using hl) ?_) (hstep l a w i o hI hl h0 ho hd))
    have hv : l.toList[i]'(by simpa using hi') = false := by simpa [Array.getD, hi'] using h0
    have := List.countP_set (p := (! ·)) (l := l.toList) (i := i) (a := true) (by simpa using hi')
    rw [Array.toList_setIfInBounds, this, hv]
    have hpos : 0 < l.toList.countP (! ·) := List.countP_pos_iff.2 ⟨false, hv ▸ List.getElem_mem _, rfl⟩
    show l.toList.countP (! ·) - 1 + 0 ≤ fuel
    omega
end Go.Proofs.YbulkdhacDoor
