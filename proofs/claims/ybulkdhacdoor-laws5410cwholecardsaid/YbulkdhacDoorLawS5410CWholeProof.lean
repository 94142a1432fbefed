/-
  THE ROW of LawS5410CWhole and THE CARD, tied by the given tie.
-/
import Derived.Test.YbulkdhacDoorRows
import Derived.Test.YbulkdhacDoorTie
import Derived.Test.YbulkdhacDoorCards
import Derived.Test.YbulkdhacDoorAny
import Derived.WalkKit
import Derived.ProofKit
import Derived.OpenShut
import Derived.OpenVars
import Derived.ChangeOld
import Derived.Below
import Derived.JoinedOf
import Derived.LaidLaws
import Derived.SevenTiedAt
namespace Go.Proofs.YbulkdhacDoor.lawS5410CWhole
open Go.ChangeShapes Go.WideShapes Go.ChangeAt Go.RowKit
set_option linter.unusedVariables false

theorem own : ownKnob Ybad.prog.godebug = none := by kernel_rfl
theorem laidOut : laidOutB Ybad.prog = true := by kernel_rfl

/-- A world that meets the condition: the settled one, the table's cells laid. -/
noncomputable def laidWorld (os : Os) : World :=
  { World.holding Ybad.prog os ⟨#[], #[], []⟩ with heap := (World.holding Ybad.prog os ⟨#[], #[], []⟩).heap.modify 1 fun
      | .cells _ t frozen => .cells (tens.map fun z => Value.int .u64 z).toArray t frozen
      | o => o }
def args0 : Array Value := #[.agg (arr (yv false (fun _ => 0) (fun _ => 0))), .bool false, .agg ((List.range 30).map (evc (fun _ => 0) (fun _ => false))).toArray]
theorem laid_met (os : Os) (args : Array Value) : laidMetH Ybad.prog Rows.lawS5410CWholeRow.laid ((laidWorld os).forCall (fun _ _ => 0) ⟨#[], args, []⟩).memory :=
  laidMet_of_run' 8 (by kernel_rfl) (by kernel_rfl)

set_option maxRecDepth 100000 in
theorem lifted (os : Os) (started : os.Started) (H : Type) (enc : TypeId × Value → H) :
    ReturnsInHanded {} Ybad.checked os 3 .any (fun w args => (Rows.lawS5410CWholeSpec.pre enc Ybad.prog Ybad.f3 [] false w args ∧ laidMetH Ybad.prog Rows.lawS5410CWholeRow.laid w) ∧ sizedMet enc Ybad.prog Ybad.f3 (OpenSpec.ofChange Rows.lawS5410CWholeSpec) false w args)
      (Rows.lawS5410CWholeSpec.post enc Ybad.prog Ybad.f3 false true false false) := by
  refine returnsInHanded_of_change_and (C := Ybad.checked) (X := fun w _ => laidMetH Ybad.prog Rows.lawS5410CWholeRow.laid w) (fun _ _ _ hh h => laidMet.of_heap hh h) own started (by kernel_rfl) Ybad.func3
    (ChangeSpec.witness_at (enc := enc) (C := Ybad.checked) (os := os) (X := fun w _ => laidMetH Ybad.prog Rows.lawS5410CWholeRow.laid w) false (laidWorld os) args0 8 rfl (by kernel_rfl) (by kernel_rfl) (by kernel_rfl) (by kernel_rfl) (by kernel_rfl) (laid_met os _)) ?_
  intro W base args ds gs before hval0 hW _ _ hL _
  have hpow : Pow W := pow_of_laid hL
  have hval : ∀ (j : Nat) t v, Ybad.f3.params[j]? = some t → args[j]? = some v → Value.okWide Ybad.prog W .any base t v := hval0
  have hW' := hW
  obtain ⟨p, q, hA0, hV0, rfl, hfz, hnd⟩ := hW
  have hA : DataW.TrodAll enc Ybad.prog W 0 (fun _ => true) true Ybad.f3.params.toList args.toList ds p := hA0
  rw [Ybad.params3] at hA hval
  obtain ⟨v0, vs0, d0, ds0, p0, q0, hargs, rfl, rfl, h0, r0⟩ := trodAll_cons hA
  obtain ⟨v1, vs1, d1, ds1, p1, q1, rfl, rfl, rfl, h1, r1⟩ := trodAll_cons r0
  obtain ⟨v2, vs2, d2, ds2, p2, q2, rfl, rfl, rfl, h2, r2⟩ := trodAll_cons r1
  obtain ⟨rfl, rfl, rfl⟩ := trodAll_nil r2
  obtain rfl : args = #[v0, v1, v2] := by cases args; simp_all
  obtain ⟨b0, F, I, rfl⟩ := open_yd (hval 0 28 v0 rfl rfl)
  obtain ⟨J, B, rfl, hJ⟩ := open_ev (hval 2 33 v2 rfl rfl)
  have lt0 : ∀ x ∈ p0, x.block < W.heap.size := by obtain ⟨m, hm⟩ := h0; exact DataW.trod_lt m _ _ _ hm
  have lt2 : ∀ x ∈ p2, x.block < W.heap.size := by obtain ⟨m, hm⟩ := h2; exact DataW.trod_lt m _ _ _ hm
  obtain ⟨b, rfl, rfl, rfl⟩ := open_bool Ybad.underlying4 (hval 1 4 v1 rfl rfl) h1
  obtain ⟨g1, rfl⟩ : ∃ g1, gs = [g1] := by
    match gs, hV0 with
    | [], h => exact h.elim
    | [g], _ => exact ⟨g, rfl⟩
    | _ :: _ :: _, ⟨_, _, _, _, _, _, _, _, _, _, h, _⟩ => exact h.elim
  have hV : DataW.TrodVars enc Ybad.prog W (fun _ => true) ["example.com/pacewatch/pacewatch.pow10"] [g1] q := hV0
  clear hA0 hval0 hV0
  refine (law_any b0 F I b J B hJ W hpow).mono fun e W' ⟨he, bel⟩ => ?_
  subst he
  have e1 : Rows.lawS5410CWholeSpec.fn H ([d0, .lit (.bool b), d2] ++ [g1]) = { results := [.lit (.bool true)], args := [d0, .lit (.bool b), d2], vars := [g1] } := rfl
  refine ⟨_, rfl, _, _, _, [], p0 ++ ([] ++ (p2 ++ [])), q, hW', ?_, ?_, ?_, bel.frame _, fun h => by cases h⟩
  · rw [e1]; exact trodAll_mk1 (shut_bool Ybad.underlying4 true)
  · rw [e1]; exact trodAll_cons_mk (Below.trod laidOut (by kernel_rfl) (of_decide_eq_true (by kernel_rfl)) h0 bel lt0) (trodAll_cons_mk (shut_bool Ybad.underlying4 b) (trodAll_cons_mk (Below.trod laidOut (by kernel_rfl) (of_decide_eq_true (by kernel_rfl)) h2 bel lt2) trodAll_mk0))
  · rw [e1]; exact Below.trodVars laidOut bel (by kernel_rfl) hV

theorem over : Rows.LawS5410CWholeSaid :=
  OpenClaim.holds_of_wide 3 Ybad.f3 rfl rfl rfl rfl rfl rfl rfl ⟨rfl, rfl, rfl, rfl, rfl⟩ rfl rfl rfl rfl rfl (by kernel_rfl) Ybad.func3 (by kernel_rfl)
    (of_decide_eq_true (by kernel_rfl)) (by unfold Func.isWrapper; first | (rw [if_pos (by decide +kernel)]; kernel_rfl) | (rw [if_neg (by decide +kernel)]; exact ⟨rfl, rfl⟩))
    (fun os started H enc _ => lifted os started H enc)

theorem wants (j : Nat) (t : TypeId) (ht : #[28, 4, 33][j]? = some t) : Ybad.prog.wantsStandIn t = false := by
  match j, ht with
  | 0, h => obtain rfl := Option.some.inj h; exact (show Ybad.prog.wantsStandIn 28 = false by kernel_rfl)
  | 1, h => obtain rfl := Option.some.inj h; exact (show Ybad.prog.wantsStandIn 4 = false by kernel_rfl)
  | 2, h => obtain rfl := Option.some.inj h; exact (show Ybad.prog.wantsStandIn 33 = false by kernel_rfl)
  | n + 3, h => simp at h

/-- THE STATEMENT -/
theorem proved : Rows.LawS5410CWholeCardSaid :=
  Claim7.holds_tied_plain_at .later [] [.called] true (true, "c652dc11cfe05565620007801dc2d6c1f9e71b16c8798c7db9f9e5f08214d915") false
    over (fun _ h => by cases h) (by kernel_rfl) (fun _ h => by cases h) lawS5410CWhole_row_tie rfl ⟨rfl, rfl⟩ (by kernel_rfl) rfl
    (fun f fn hf hfn => by
      obtain rfl : f = 3 := Option.some.inj ((show Ybad.prog.funcNamed "example.com/pacewatch/pacewatch.LawS5410CWhole" = some 3 by kernel_rfl).symm.trans hf) |>.symm
      obtain rfl : fn = Ybad.f3 := (Option.some.inj (Ybad.func3.symm.trans hfn)).symm
      exact ⟨by kernel_rfl, fun j t ht => by
        rw [Ybad.params3] at ht
        exact wants j t ht⟩)
    (by kernel_rfl)
end Go.Proofs.YbulkdhacDoor.lawS5410CWhole
