/-
  THE ROW of LawS5414AWhole: the guide's frame (proof-skeleton.mjs' make) at this function; the slice of structs opened by Derived.Deep.Slices.
-/
import Derived.Test.YbulkdhcgRows
import Derived.Test.YbulkdhcgLaw
import Derived.WalkKit
import Derived.ProofKit
import Derived.OpenShut
import Derived.ShutString
import Derived.ChangeOld
import Derived.Below
import Derived.Deep.Slices
namespace Go.Proofs.Ybulkdhcg.lawS5414AWhole
open Go.ChangeShapes Go.WideShapes Go.ChangeAt Go.RowKit
open Go.ChangeMaps (open_string shut_string)
set_option linter.unusedVariables false

theorem own : ownKnob Yba.prog.godebug = none := by kernel_rfl
theorem laidOut : laidOutB Yba.prog = true := by kernel_rfl
theorem cells4 : Yba.prog.cellsOf 4 = 1 := by kernel_rfl
theorem cells5 : Yba.prog.cellsOf 5 = 1 := by kernel_rfl
theorem cells22 : Yba.prog.cellsOf 22 = 1 := by kernel_rfl
theorem cells33 : Yba.prog.cellsOf 33 = 9 := by kernel_rfl

theorem list9 {α : Type} (l : List α) (h : l.length = 9) : ∃ a b c d e f g i j, l = [a, b, c, d, e, f, g, i, j] := by
  match l, h with
  | [a, b, c, d, e, f, g, i, j], _ => exact ⟨a, b, c, d, e, f, g, i, j, rfl⟩

theorem open_op {H : Type} {enc : TypeId × Value → H} {w : World} {base : Nat} {spare : Nat → Bool} {held : Bool} {fuel : Nat} {cs : List Value} {x : DataW H × List MemPlace}
    (h : DataW.trod enc Yba.prog w base spare held fuel 33 cs = some x) : ∃ o : Op9, cs = o.cells.toList := by
  obtain ⟨xs, n, _, _, hl, hlen, hf⟩ := DataW.trod_struct Yba.underlying33 h
  have hs : xs.length = 9 := hlen
  rw [cells33] at hl
  obtain ⟨c0, c1, c2, c3, c4, c5, c6, c7, c8, rfl⟩ := list9 cs hl
  obtain ⟨y0, y1, y2, y3, y4, y5, y6, y7, y8, rfl⟩ := list9 xs hs
  obtain ⟨kd, e0, _, _⟩ := DataW.trod_int Yba.underlying5 (hf 0 _ rfl)
  obtain ⟨fs, e1, _⟩ := DataW.trod_bool Yba.underlying4 (hf 1 _ rfl)
  obtain ⟨sd, e2, _, _⟩ := DataW.trod_int Yba.underlying5 (hf 2 _ rfl)
  obtain ⟨hb, e3, _⟩ := DataW.trod_bool Yba.underlying4 (hf 3 _ rfl)
  obtain ⟨ra, e4, _, _⟩ := DataW.trod_int Yba.underlying22 (hf 4 _ rfl)
  obtain ⟨rn, e5, _, _⟩ := DataW.trod_int Yba.underlying22 (hf 5 _ rfl)
  obtain ⟨ba, e6, _, _⟩ := DataW.trod_int Yba.underlying22 (hf 6 _ rfl)
  obtain ⟨bn, e7, _, _⟩ := DataW.trod_int Yba.underlying22 (hf 7 _ rfl)
  obtain ⟨ct, e8, _, _⟩ := DataW.trod_int Yba.underlying22 (hf 8 _ rfl)
  simp [cells4, cells5, cells22] at e0 e1 e2 e3 e4 e5 e6 e7 e8
  subst e0 e1 e2 e3 e4 e5 e6 e7 e8
  exact ⟨⟨kd, fs, sd, hb, ra, rn, ba, bn, ct⟩, rfl⟩

theorem src_of {H : Type} {enc : TypeId × Value → H} {w : World} {base : Nat} {spare : Nat → Bool} {held : Bool} {fuel : Nat} {a0 : Option Addr} {len cap : Nat} {x : DataW H × List MemPlace}
    (h : DataW.trod enc Yba.prog w base spare held fuel 23 [.slice a0 len cap] = some x) : ∃ o : Nat → Op9, Src w a0 len o := by
  rcases Go.Deep.open_slice Yba.underlying23 h with ⟨hcs, _⟩ | ⟨a, l, c, m, n, D, Pl, hcs, _, hl, _, hmm, _, hx⟩
  · simp at hcs
    obtain ⟨rfl, rfl, rfl⟩ := hcs
    exact ⟨fun _ => ⟨0, false, 0, false, 0, 0, 0, 0, 0⟩, fun i hi => absurd hi (Nat.not_lt_zero _)⟩
  · simp at hcs
    obtain ⟨rfl, rfl, rfl⟩ := hcs
    have hlm : len ≤ m := by rw [hmm]; split <;> omega
    rw [cells33] at hx
    haveI : Inhabited Op9 := ⟨⟨0, false, 0, false, 0, 0, 0, 0, 0⟩⟩
    obtain ⟨o, ho⟩ := Go.Deep.choose_lt (α := Op9) (n := len) (p := fun i p => ∀ j, j < 9 → w.cell? (a.add (i * 9 + j)) = some (p.at j)) (fun i hi => by
      obtain ⟨cs', g1, g2⟩ := hx i (by omega)
      obtain ⟨p, rfl⟩ := open_op g2
      obtain ⟨_, _, hc⟩ := World.cells?_some g1
      refine ⟨p, fun j hj => ?_⟩
      rw [← Go.Deep.add_add, hc j hj, at_of p j hj])
    refine ⟨o, fun i hi => ?_⟩
    obtain ⟨b, off, spot⟩ := a
    have h0 := ho 0 (by omega) 0 (by omega)
    have hspot : spot = none := by simpa [Addr.add] using World.cell?_spot h0
    subst hspot
    refine ⟨b, off, rfl, fun j hj => ?_⟩
    have := ho i hi j hj
    rw [Addr.add_mid] at this
    rw [Nat.add_assoc]
    exact this

theorem walk (a0 a1 a2 : Int) (a3 : Option Addr) (len3 cap3 : Nat) (o : Nat → Op9) (a4 : ByteArray) (w : World) (w2 : (Lit.int .u64 a2).wf = true) (hs : Src w a3 len3 o) :
    Calls Yba.prog 3 #[.int .u64 a0, .int .u64 a1, .int .u64 a2, .slice a3 len3 cap3, .string a4] w fun e w' => e = .returned (.bool true) ∧ Below w.heap.size w w' := by
  have b2 := bounds_u64 w2
  by_cases hlen : 1048576 < len3
  · exact law_great a0 a1 a2 a3 len3 cap3 a4 w hlen
  · exact law_any a0 a1 a2 a3 len3 cap3 o a4 w (by omega) hs b2.1 b2.2

set_option maxRecDepth 100000 in
theorem lifted (os : Os) (started : os.Started) (H : Type) (enc : TypeId × Value → H) :
    ReturnsInHanded {} Yba.checked os 3 .any (Rows.lawS5414AWholeSpec.pre6 enc Yba.prog Yba.f3 Rows.lawS5414AWholeRow.domain false) (Rows.lawS5414AWholeSpec.post enc Yba.prog Yba.f3 false true false false) := by
  refine returnsInHanded_of_change (C := Yba.checked) own started (by kernel_rfl) Yba.func3
    (ChangeSpec.witness6 (enc := enc) (C := Yba.checked) false ⟨#[], #[.int .u64 0, .int .u64 0, .int .u64 0, .slice none 0 0, .string ByteArray.empty], []⟩ 8 (by kernel_rfl) (by kernel_rfl) (by kernel_rfl) (by kernel_rfl)) ?_
  intro W base args ds gs before hval0 hW hcnd _
  have hval : ∀ (j : Nat) t v, Yba.f3.params[j]? = some t → args[j]? = some v → Value.okWide Yba.prog W .any base t v := hval0
  have hW' := hW
  obtain ⟨p, q, hA0, hV, rfl, hfz, hnd⟩ := hW
  have hA : DataW.TrodAll enc Yba.prog W 0 (fun _ => true) true Yba.f3.params.toList args.toList ds p := hA0
  rw [Yba.params3] at hA hval
  obtain ⟨v0, vs0, d0, ds0, p0, q0, hargs, rfl, rfl, h0, r0⟩ := trodAll_cons hA
  obtain ⟨v1, vs1, d1, ds1, p1, q1, rfl, rfl, rfl, h1, r1⟩ := trodAll_cons r0
  obtain ⟨v2, vs2, d2, ds2, p2, q2, rfl, rfl, rfl, h2, r2⟩ := trodAll_cons r1
  obtain ⟨v3, vs3, d3, ds3, p3, q3, rfl, rfl, rfl, h3, r3⟩ := trodAll_cons r2
  obtain ⟨v4, vs4, d4, ds4, p4, q4, rfl, rfl, rfl, h4, r4⟩ := trodAll_cons r3
  obtain ⟨rfl, rfl, rfl⟩ := trodAll_nil r4
  obtain rfl : args = #[v0, v1, v2, v3, v4] := by cases args; simp_all
  obtain ⟨rfl, rfl⟩ := trodVars_none hV
  obtain ⟨a0, rfl, rfl, rfl, w0⟩ := open_int Yba.underlying22 (hval 0 22 v0 rfl rfl) h0
  obtain ⟨a1, rfl, rfl, rfl, w1⟩ := open_int Yba.underlying22 (hval 1 22 v1 rfl rfl) h1
  obtain ⟨a2, rfl, rfl, rfl, w2⟩ := open_int Yba.underlying22 (hval 2 22 v2 rfl rfl) h2
  obtain ⟨a3, len3, cap3, rfl⟩ := okWide_slice Yba.underlying23 (hval 3 23 v3 rfl rfl)
  have k3 := h3
  have lt3 : ∀ x ∈ p3, x.block < W.heap.size := by obtain ⟨m, hm⟩ := k3; exact DataW.trod_lt m _ _ _ hm
  obtain ⟨o, w3⟩ : ∃ o : Nat → Op9, Src W a3 len3 o := by
    obtain ⟨fuel, hf⟩ := h3
    exact src_of (cap := cap3) (by simpa [Value.cells] using hf)
  obtain ⟨a4, rfl, rfl, rfl, w4⟩ := open_string Yba.underlying9 (hval 4 9 v4 rfl rfl) h4
  clear hA0 hval0
  refine (walk a0 a1 a2 a3 len3 cap3 o a4 W w2 w3).mono fun e W' ⟨he, bel⟩ => ?_
  subst he
  exact ⟨_, rfl, _, _, _, [], _, [], hW', trodAll_mk1 (shut_bool Yba.underlying4 _), (trodAll_cons_mk (shut_int Yba.underlying22 w0) (trodAll_cons_mk (shut_int Yba.underlying22 w1) (trodAll_cons_mk (shut_int Yba.underlying22 w2) (trodAll_cons_mk (Below.trod laidOut (by kernel_rfl) (of_decide_eq_true (by kernel_rfl)) k3 bel lt3) (trodAll_cons_mk (shut_string Yba.underlying9 w4) trodAll_mk0))))), rfl, bel.frame _, fun h => by cases h⟩

theorem over : Rows.lawS5414AWholeRow.holds Yba.pinned (OpenSpec.ofChange Rows.lawS5414AWholeSpec) :=
  OpenClaim.holds_of_wide 3 Yba.f3 rfl rfl rfl rfl rfl rfl rfl ⟨rfl, rfl, rfl, rfl, rfl⟩ rfl rfl rfl rfl rfl (by kernel_rfl) Yba.func3 (by kernel_rfl)
    (of_decide_eq_true (by kernel_rfl)) (by unfold Func.isWrapper; first | (rw [if_pos (by decide +kernel)]; kernel_rfl) | (rw [if_neg (by decide +kernel)]; exact ⟨rfl, rfl⟩))
    (fun os started H enc _ => lifted os started H enc)

/-- THE STATEMENT -/
theorem proved : Rows.LawS5414AWholeSaid := over
end Go.Proofs.Ybulkdhcg.lawS5414AWhole
