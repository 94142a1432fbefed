/-
  THE ROW of LawS5414CWhole and THE CARD, tied by the given tie.
-/
import Derived.Test.YbulkdhcgDoorRows
import Derived.Test.YbulkdhcgDoorTie
import Derived.Test.YbulkdhcgDoorCards
import Derived.Test.YbulkdhcgDoorShape
import Derived.WalkKit
import Derived.ProofKit
import Derived.OpenShut
import Derived.OpenVars
import Derived.ChangeOld
import Derived.Below
import Derived.JoinedOf
import Derived.LaidLaws
import Derived.SevenTiedAt
namespace Go.Proofs.YbulkdhcgDoor.lawS5414CWhole
open Go.ChangeShapes Go.WideShapes Go.ChangeAt Go.RowKit
set_option linter.unusedVariables false

theorem own : ownKnob Ybad.prog.godebug = none := by kernel_rfl
theorem laidOut : laidOutB Ybad.prog = true := by kernel_rfl

/-- A world that meets the condition: the settled one, the table's cells laid. -/
noncomputable def laidWorld (os : Os) : World :=
  { World.holding Ybad.prog os ⟨#[], #[], []⟩ with heap := (World.holding Ybad.prog os ⟨#[], #[], []⟩).heap.modify 0 fun
      | .cells _ t frozen => .cells (tabZ.map fun z => Value.int .u8 z).toArray t frozen
      | o => o }
def args0 : Array Value := #[.slice none 0 0, .slice none 0 0, .int .u8 0, .int .u64 0, .slice none 0 0, .slice none 0 0]
theorem laid_met (os : Os) (args : Array Value) : laidMetH Ybad.prog Rows.lawS5414CWholeRow.laid ((laidWorld os).forCall (fun _ _ => 0) ⟨#[], args, []⟩).memory :=
  laidMet_of_run' 8 (by kernel_rfl) (by kernel_rfl)

theorem bound_of {H : Type} {ts : List TypeId} {ds : List (DataW H)} (hsz : (DataW.weightsEach Ybad.prog ts ds).all (· ≤ reachBytes) = true) {d : DataW H} {len : Nat} (hd : Long d len) (h1 : ts[0]? = some 22) (h2 : ds[0]? = some d) : len ≤ 17592186044416 := by
  rcases hd with rfl | ⟨els, sp, rfl, rfl⟩
  · omega
  · have := sized_slice hsz h1 h2 Ybad.underlying22
    unfold reachBytes at this
    rw [bytes27] at this
    omega
theorem weights_of {H : Type} {ts : List TypeId} {ds : List (DataW H)} (hsz : (DataW.weightsEach Ybad.prog ts ds).all (· ≤ reachBytes) = true) {d : DataW H} (h1 : ts[0]? = some 22) (h2 : ds[0]? = some d) : (d.weights Ybad.prog 22).all (· ≤ reachBytes) = true :=
  List.all_eq_true.2 fun n hn => List.all_eq_true.1 hsz n (DataW.weights_mem_each h1 h2 n hn)

set_option maxRecDepth 100000 in
theorem lifted (os : Os) (started : os.Started) (H : Type) (enc : TypeId × Value → H) :
    ReturnsInHanded {} Ybad.checked os 3 .any (fun w args => (Rows.lawS5414CWholeSpec.pre enc Ybad.prog Ybad.f3 [] false w args ∧ laidMetH Ybad.prog Rows.lawS5414CWholeRow.laid w) ∧ sizedMet enc Ybad.prog Ybad.f3 (OpenSpec.ofChange Rows.lawS5414CWholeSpec) false w args)
      (Rows.lawS5414CWholeSpec.post enc Ybad.prog Ybad.f3 false true false false) := by
  refine returnsInHanded_of_change_and (C := Ybad.checked) (X := fun w _ => laidMetH Ybad.prog Rows.lawS5414CWholeRow.laid w) (fun _ _ _ hh h => laidMet.of_heap hh h) own started (by kernel_rfl) Ybad.func3
    (ChangeSpec.witness_at (enc := enc) (C := Ybad.checked) (os := os) (X := fun w _ => laidMetH Ybad.prog Rows.lawS5414CWholeRow.laid w) false (laidWorld os) args0 8 rfl (by kernel_rfl) (by kernel_rfl) (by kernel_rfl) (by kernel_rfl) (by kernel_rfl) (laid_met os _)) ?_
  intro W base args ds gs before hval0 hW _ hsz0 hL _
  have htab : Tab W := tab_of_laid hL
  have hsz : (DataW.weightsEach Ybad.prog (Ybad.f3.params.toList ++ Rows.lawS5414CWholeSpec.plain.varTypes Ybad.prog) (ds ++ gs)).all (· ≤ reachBytes) = true := hsz0
  have hval : ∀ (j : Nat) t v, Ybad.f3.params[j]? = some t → args[j]? = some v → Value.okWide Ybad.prog W .any base t v := hval0
  have hW' := hW
  obtain ⟨p, q, hA0, hV0, rfl, hfz, hnd⟩ := hW
  have hA : DataW.TrodAll enc Ybad.prog W 0 (fun _ => true) true Ybad.f3.params.toList args.toList ds p := hA0
  rw [Ybad.params3] at hA hval hsz
  obtain ⟨v0, vs0, d0, ds0, p0, q0, hargs, rfl, rfl, h0, r0⟩ := trodAll_cons hA
  obtain ⟨v1, vs1, d1, ds1, p1, q1, rfl, rfl, rfl, h1, r1⟩ := trodAll_cons r0
  obtain ⟨v2, vs2, d2, ds2, p2, q2, rfl, rfl, rfl, h2, r2⟩ := trodAll_cons r1
  obtain ⟨v3, vs3, d3, ds3, p3, q3, rfl, rfl, rfl, h3, r3⟩ := trodAll_cons r2
  obtain ⟨v4, vs4, d4, ds4, p4, q4, rfl, rfl, rfl, h4, r4⟩ := trodAll_cons r3
  obtain ⟨v5, vs5, d5, ds5, p5, q5, rfl, rfl, rfl, h5, r5⟩ := trodAll_cons r4
  obtain ⟨rfl, rfl, rfl⟩ := trodAll_nil r5
  obtain rfl : args = #[v0, v1, v2, v3, v4, v5] := by cases args; simp_all
  obtain ⟨a0, len0, cap0, rfl⟩ := okWide_slice Ybad.underlying22 (hval 0 22 v0 rfl rfl)
  obtain ⟨a1, len1, cap1, rfl⟩ := okWide_slice Ybad.underlying23 (hval 1 23 v1 rfl rfl)
  obtain ⟨a4, len4, cap4, rfl⟩ := okWide_slice Ybad.underlying25 (hval 4 25 v4 rfl rfl)
  obtain ⟨a5, len5, cap5, rfl⟩ := okWide_slice Ybad.underlying26 (hval 5 26 v5 rfl rfl)
  have lt0 : ∀ x ∈ p0, x.block < W.heap.size := by obtain ⟨m, hm⟩ := h0; exact DataW.trod_lt m _ _ _ hm
  have lt1 : ∀ x ∈ p1, x.block < W.heap.size := by obtain ⟨m, hm⟩ := h1; exact DataW.trod_lt m _ _ _ hm
  have lt4 : ∀ x ∈ p4, x.block < W.heap.size := by obtain ⟨m, hm⟩ := h4; exact DataW.trod_lt m _ _ _ hm
  have lt5 : ∀ x ∈ p5, x.block < W.heap.size := by obtain ⟨m, hm⟩ := h5; exact DataW.trod_lt m _ _ _ hm
  obtain ⟨ta, tl, tc, tz, s0, s0z, l0, s0w⟩ : ∃ (ta : Nat → Option Addr) (tl tc : Nat → Nat) (tz : Nat → Nat → Nat), (∀ i, i < len0 → ∃ b o, a0 = some ⟨b, o, none⟩ ∧ W.cell? ⟨b, o + i, none⟩ = some (.slice (ta i) (tl i) (tc i))) ∧
      (∀ i, i < len0 → ∀ j, j < tl i → ∃ b o, ta i = some ⟨b, o, none⟩ ∧ W.cell? ⟨b, o + j, none⟩ = some (.int .u8 ((tz i j : Nat) : Int)) ∧ tz i j < 256) ∧ Long d0 len0 ∧
      ((d0.weights Ybad.prog 22).all (· ≤ reachBytes) = true → ∀ i, i < len0 → tl i ≤ reachBytes) := by
    obtain ⟨fuel, hf⟩ := h0
    exact texts_of (cap := cap0) (x := (d0, p0)) (by simpa [Value.cells] using hf)
  obtain ⟨rA, rN, rL, s1⟩ : ∃ fa fb fc : Nat → Nat, ∀ i, i < len1 → ∃ b o, a1 = some ⟨b, o, none⟩ ∧ W.cell? ⟨b, o + i * 3, none⟩ = some (.int .u8 ((fa i : Nat) : Int)) ∧ W.cell? ⟨b, o + i * 3 + 1, none⟩ = some (.int .u16 ((fb i : Nat) : Int)) ∧ W.cell? ⟨b, o + i * 3 + 2, none⟩ = some (.int .u16 ((fc i : Nat) : Int)) ∧ fa i < 256 ∧ fb i < 65536 ∧ fc i < 65536 := by
    obtain ⟨fuel, hf⟩ := h1
    exact trios_of Ybad.underlying23 Ybad.underlying71 cells71 ⟨rfl, rfl⟩ ⟨rfl, rfl⟩ ⟨rfl, rfl⟩ (cap := cap1) (x := (d1, p1)) (by simpa [Value.cells] using hf)
  obtain ⟨iz, s4⟩ : ∃ f : Nat → Nat, ∀ i, i < len4 → ∃ b o, a4 = some ⟨b, o, none⟩ ∧ W.cell? ⟨b, o + i, none⟩ = some (.int .u32 ((f i : Nat) : Int)) ∧ f i < 4294967296 := by
    obtain ⟨fuel, hf⟩ := h4
    exact u32s_of (cap := cap4) (x := (d4, p4)) (by simpa [Value.cells] using hf)
  obtain ⟨dA, dL, dS, s5⟩ : ∃ fa fb fc : Nat → Nat, ∀ i, i < len5 → ∃ b o, a5 = some ⟨b, o, none⟩ ∧ W.cell? ⟨b, o + i * 3, none⟩ = some (.int .u8 ((fa i : Nat) : Int)) ∧ W.cell? ⟨b, o + i * 3 + 1, none⟩ = some (.int .u16 ((fb i : Nat) : Int)) ∧ W.cell? ⟨b, o + i * 3 + 2, none⟩ = some (.int .u16 ((fc i : Nat) : Int)) ∧ fa i < 256 ∧ fb i < 65536 ∧ fc i < 65536 := by
    obtain ⟨fuel, hf⟩ := h5
    exact trios_of Ybad.underlying26 Ybad.underlying83 cells83 ⟨rfl, rfl⟩ ⟨rfl, rfl⟩ ⟨rfl, rfl⟩ (cap := cap5) (x := (d5, p5)) (by simpa [Value.cells] using hf)
  have b0 : len0 ≤ 17592186044416 := bound_of hsz l0 rfl rfl
  have bt : ∀ i, i < len0 → tl i ≤ 281474976710656 := fun i hi => by
    have h6 := s0w (weights_of hsz rfl rfl) i hi
    unfold reachBytes at h6
    omega
  obtain ⟨z2, rfl, rfl, rfl, w2⟩ := open_int Ybad.underlying5 (hval 2 5 v2 rfl rfl) h2
  obtain ⟨z3, rfl, rfl, rfl, w3⟩ := open_int Ybad.underlying24 (hval 3 24 v3 rfl rfl) h3
  obtain ⟨m2, rfl, e2⟩ := wf_u8 w2
  obtain ⟨m3, rfl, e3⟩ := wf_u64 w3
  obtain ⟨rfl, rfl⟩ := trodVars_none hV0
  clear hA0 hval0 hsz hsz0
  refine (law_any ⟨a0, len0, cap0, ta, tl, tc, tz, a1, len1, cap1, rA, rN, rL, m2, m3, a4, len4, cap4, iz, a5, len5, cap5, dA, dL, dS⟩ W ⟨htab, s0, s0z, s1, s4, s5, e2, e3⟩ b0 bt).mono fun e W' ⟨he, bel⟩ => ?_
  subst he
  exact ⟨_, rfl, _, _, _, [], _, [], hW', trodAll_mk1 (shut_bool Ybad.underlying4 _), (trodAll_cons_mk (Below.trod laidOut (by kernel_rfl) (of_decide_eq_true (by kernel_rfl)) h0 bel lt0) (trodAll_cons_mk (Below.trod laidOut (by kernel_rfl) (of_decide_eq_true (by kernel_rfl)) h1 bel lt1) (trodAll_cons_mk (shut_int Ybad.underlying5 w2) (trodAll_cons_mk (shut_int Ybad.underlying24 w3) (trodAll_cons_mk (Below.trod laidOut (by kernel_rfl) (of_decide_eq_true (by kernel_rfl)) h4 bel lt4) (trodAll_cons_mk (Below.trod laidOut (by kernel_rfl) (of_decide_eq_true (by kernel_rfl)) h5 bel lt5) trodAll_mk0)))))), rfl, bel.frame _, fun h => by cases h⟩

theorem over : Rows.LawS5414CWholeSaid :=
  OpenClaim.holds_of_wide 3 Ybad.f3 rfl rfl rfl rfl rfl rfl rfl ⟨rfl, rfl, rfl, rfl, rfl⟩ rfl rfl rfl rfl rfl (by kernel_rfl) Ybad.func3 (by kernel_rfl)
    (of_decide_eq_true (by kernel_rfl)) (by unfold Func.isWrapper; first | (rw [if_pos (by decide +kernel)]; kernel_rfl) | (rw [if_neg (by decide +kernel)]; exact ⟨rfl, rfl⟩))
    (fun os started H enc _ => lifted os started H enc)

theorem wants (j : Nat) (t : TypeId) (ht : #[22, 23, 5, 24, 25, 26][j]? = some t) : Ybad.prog.wantsStandIn t = false := by
  match j, ht with
  | 0, h => obtain rfl := Option.some.inj h; exact (show Ybad.prog.wantsStandIn 22 = false by kernel_rfl)
  | 1, h => obtain rfl := Option.some.inj h; exact (show Ybad.prog.wantsStandIn 23 = false by kernel_rfl)
  | 2, h => obtain rfl := Option.some.inj h; exact (show Ybad.prog.wantsStandIn 5 = false by kernel_rfl)
  | 3, h => obtain rfl := Option.some.inj h; exact (show Ybad.prog.wantsStandIn 24 = false by kernel_rfl)
  | 4, h => obtain rfl := Option.some.inj h; exact (show Ybad.prog.wantsStandIn 25 = false by kernel_rfl)
  | 5, h => obtain rfl := Option.some.inj h; exact (show Ybad.prog.wantsStandIn 26 = false by kernel_rfl)
  | n + 6, h => simp at h

/-- THE STATEMENT -/
theorem proved : Rows.LawS5414CWholeCardSaid :=
  Claim7.holds_tied_plain_at .later [] [.data] true (true, "97105d1d6ead0bea6135fe38ae1f505fd0b1b10e2b9e4590bf3076e6a2133376") false
    over (fun _ h => by cases h) (by kernel_rfl) (fun _ h => by cases h) lawS5414CWhole_row_tie rfl ⟨rfl, rfl⟩ (by kernel_rfl) rfl
    (fun f fn hf hfn => by
      obtain rfl : f = 3 := Option.some.inj ((show Ybad.prog.funcNamed "example.com/weft/weft.LawS5414CWhole" = some 3 by kernel_rfl).symm.trans hf) |>.symm
      obtain rfl : fn = Ybad.f3 := (Option.some.inj (Ybad.func3.symm.trans hfn)).symm
      exact ⟨by kernel_rfl, fun j t ht => by
        rw [Ybad.params3] at ht
        exact wants j t ht⟩)
    (by kernel_rfl)
end Go.Proofs.YbulkdhcgDoor.lawS5414CWhole
