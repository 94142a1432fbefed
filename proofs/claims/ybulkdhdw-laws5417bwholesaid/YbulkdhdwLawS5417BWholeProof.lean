/-
  THE ROW of LawS5417BWhole: the guide's frame at this function; the slices opened by Derived.Deep.Slices; the lengths bounded by the form's own reach.
-/
import Derived.Test.YbulkdhdwRows
import Derived.Test.YbulkdhdwLaw
import Derived.Test.YbulkdhdwGreat
import Derived.WalkKit
import Derived.ProofKit
import Derived.OpenShut
import Derived.ShutString
import Derived.ChangeOld
import Derived.Below
import Derived.SizedLaws
import Derived.Deep.Slices
namespace Go.Proofs.Ybulkdhdw.lawS5417BWhole
open Go.ChangeShapes Go.WideShapes Go.ChangeAt Go.RowKit
set_option linter.unusedVariables false

theorem own : ownKnob Yba.prog.godebug = none := by kernel_rfl
theorem laidOut : laidOutB Yba.prog = true := by kernel_rfl
theorem cells3 : Yba.prog.cellsOf 3 = 1 := by kernel_rfl
theorem cells25 : Yba.prog.cellsOf 25 = 1 := by kernel_rfl
theorem cells29 : Yba.prog.cellsOf 29 = 2 := by kernel_rfl
theorem bytes3 : Yba.prog.bytesOf 3 = 8 := by kernel_rfl
theorem bytes25 : Yba.prog.bytesOf 25 = 8 := by kernel_rfl
theorem bytes29 : Yba.prog.bytesOf 29 = 16 := by kernel_rfl

section
variable {H : Type} {enc : TypeId × Value → H} {w : World} {base : Nat} {spare : Nat → Bool} {held : Bool} {fuel : Nat} {a0 : Option Addr} {len cap : Nat} {x : DataW H × List MemPlace}

theorem list2 {α : Type} (l : List α) (h : l.length = 2) : ∃ a b, l = [a, b] := by
  match l, h with
  | [a, b], _ => exact ⟨a, b, rfl⟩

/-- the datum's own word on the length. -/
def Long (d : DataW H) (len : Nat) : Prop := len = 0 ∨ ∃ els sp, d = .slice els sp ∧ els.length = len

theorem nums_of {q : IntKind} {t e : TypeId} (ht : Yba.prog.underlying t = some (.slice e)) (he : Yba.prog.underlying e = some (.int q)) (hc : Yba.prog.cellsOf e = 1)
    (h : DataW.trod enc Yba.prog w base spare held fuel t [.slice a0 len cap] = some x) : (∃ f : Nat → Int, Nums w q a0 len f) ∧ Long x.1 len := by
  rcases Go.Deep.open_slice1 ht hc h with ⟨hcs, _⟩ | ⟨a, l, c, m, n, V, D, Pl, hcs, _, hl, _, hmm, hx, hy⟩
  · simp at hcs
    obtain ⟨rfl, rfl, rfl⟩ := hcs
    exact ⟨⟨fun _ => 0, fun i hi => absurd hi (Nat.not_lt_zero _)⟩, Or.inl rfl⟩
  · simp at hcs
    obtain ⟨rfl, rfl, rfl⟩ := hcs
    have hlm : len ≤ m := by rw [hmm]; split <;> omega
    refine ⟨?_, Or.inr ⟨_, _, by rw [hx], by simp⟩⟩
    obtain ⟨f, hf⟩ := Go.Deep.choose_lt (α := Int) (n := len) (p := fun i n => w.cell? (a.add i) = some (.int q n) ∧ (Lit.int q n).wf = true) (fun i hi => by
      obtain ⟨g1, g2⟩ := hy i (by omega)
      obtain ⟨n, e1, _, hw⟩ := DataW.trod_int he g2
      simp at e1
      exact ⟨n, by rw [g1, e1], hw⟩)
    refine ⟨f, fun i hi => ?_⟩
    obtain ⟨b, off, spot⟩ := a
    have h0 := (hf 0 (by omega)).1
    have hspot : spot = none := by simpa [Addr.add] using World.cell?_spot h0
    subst hspot
    obtain ⟨k1, k2⟩ := hf i hi
    rw [Addr.add_mid] at k1
    exact ⟨b, off, rfl, k1, k2⟩

theorem refs_of (h : DataW.trod enc Yba.prog w base spare held fuel 24 [.slice a0 len cap] = some x) : (∃ rh ra : Nat → Int, Refs w a0 len rh ra) ∧ (a0 = none → len = 0 ∧ cap = 0) ∧ Long x.1 len := by
  rcases Go.Deep.open_slice Yba.underlying24 h with ⟨hcs, _⟩ | ⟨a, l, c, m, n, D, Pl, hcs, _, hl, _, hmm, hx, hy⟩
  · simp at hcs
    obtain ⟨rfl, rfl, rfl⟩ := hcs
    exact ⟨⟨fun _ => 0, fun _ => 0, fun i hi => absurd hi (Nat.not_lt_zero _)⟩, fun _ => ⟨rfl, rfl⟩, Or.inl rfl⟩
  · simp at hcs
    obtain ⟨rfl, rfl, rfl⟩ := hcs
    have hlm : len ≤ m := by rw [hmm]; split <;> omega
    refine ⟨?_, fun e => (by cases e), Or.inr ⟨_, _, by rw [hx], by simp⟩⟩
    rw [cells29] at hy
    obtain ⟨f, hf⟩ := Go.Deep.choose_lt (α := Int × Int) (n := len) (p := fun i n => w.cell? (a.add (i * 2)) = some (.int .u64 n.1) ∧ w.cell? (a.add (i * 2 + 1)) = some (.int .i64 n.2)) (fun i hi => by
      obtain ⟨cs', g1, g2⟩ := hy i (by omega)
      obtain ⟨y0, y1, n', _, hl', e0, e1⟩ := trod_struct2 Yba.underlying29 g2
      rw [cells29] at hl'
      obtain ⟨v0, v1, rfl⟩ := list2 cs' hl'
      obtain ⟨n0, z0, _, _⟩ := DataW.trod_int Yba.underlying25 e0
      obtain ⟨n1, z1, _, _⟩ := DataW.trod_int Yba.underlying3 e1
      simp [cells25, cells3] at z0 z1
      subst z0 z1
      obtain ⟨_, _, hc⟩ := World.cells?_some g1
      refine ⟨(n0, n1), ?_, ?_⟩
      · have := hc 0 (by omega)
        rw [Go.Deep.add_add] at this
        simpa using this
      · have := hc 1 (by omega)
        rw [Go.Deep.add_add] at this
        simpa using this)
    refine ⟨fun i => (f i).1, fun i => (f i).2, fun i hi => ?_⟩
    obtain ⟨b, off, spot⟩ := a
    have h0 := (hf 0 (by omega)).1
    have hspot : spot = none := by simpa [Addr.add] using World.cell?_spot h0
    subst hspot
    obtain ⟨k1, k2⟩ := hf i hi
    rw [Addr.add_mid] at k1 k2
    exact ⟨b, off, rfl, k1, k2⟩
end

theorem bound_of {H : Type} {ts : List TypeId} {ds : List (DataW H)} (hsz : (DataW.weightsEach Yba.prog ts ds).all (· ≤ reachBytes) = true) {j : Nat} {t e : TypeId} {d : DataW H} {len : Nat} (hd : Long d len) (h1 : ts[j]? = some t) (h2 : ds[j]? = some d)
    (hu : Yba.prog.underlying t = some (.slice e)) (hb : 8 ≤ Yba.prog.bytesOf e) : len ≤ 17592186044416 := by
  rcases hd with rfl | ⟨els, sp, rfl, rfl⟩
  · omega
  · have := sized_slice hsz h1 h2 hu
    unfold reachBytes at this
    have h3 : els.length * 8 ≤ (els.length + sp.length) * Yba.prog.bytesOf e := Nat.mul_le_mul (by omega) hb
    omega

theorem walk (a0 : Option Addr) (nk cap0 : Nat) (a1 : Option Addr) (nv cap1 : Nat) (a2 : Option Addr) (nc cap2 : Nat) (a3 a4 a5 a6 a7 : Int) (w : World)
    (ks vs rh ra : Nat → Int) (h0 : Nums w .u64 a0 nk ks) (h1 : Nums w .i64 a1 nv vs) (h2 : Refs w a2 nc rh ra) (hnil : a2 = none → nc = 0 ∧ cap2 = 0)
    (b0 : nk ≤ 17592186044416) (b1 : nv ≤ 17592186044416) (b2 : nc ≤ 17592186044416)
    (w3 : (Lit.int .u64 a3).wf = true) (w4 : (Lit.int .i64 a4).wf = true) (w5 : (Lit.int .u8 a5).wf = true) :
    Calls Yba.prog 3 #[.slice a0 nk cap0, .slice a1 nv cap1, .slice a2 nc cap2, .int .u64 a3, .int .i64 a4, .int .u8 a5, .int .i64 a6, .int .i64 a7] w fun e w' => e = .returned (.bool true) ∧ Below w.heap.size w w' := by
  have p := bounds_u8 w5
  by_cases hn : 1048576 < nk + nv + nc
  · exact law_great a0 nk cap0 a1 nv cap1 a2 nc cap2 a3 a4 a5 a6 a7 w b0 b1 b2 hn
  · exact law_any a0 nk cap0 ks a1 nv cap1 vs a2 nc cap2 rh ra a3 a4 a5 a6 a7 w (by omega) h0 h1 h2 hnil w3 w4 p.1 p.2

set_option maxRecDepth 100000 in
theorem lifted (os : Os) (started : os.Started) (H : Type) (enc : TypeId × Value → H) :
    ReturnsInHanded {} Yba.checked os 3 .any (Rows.lawS5417BWholeSpec.pre6 enc Yba.prog Yba.f3 Rows.lawS5417BWholeRow.domain false) (Rows.lawS5417BWholeSpec.post enc Yba.prog Yba.f3 false true false false) := by
  refine returnsInHanded_of_change_sized (C := Yba.checked) own started (by kernel_rfl) Yba.func3
    (ChangeSpec.witness6 (enc := enc) (C := Yba.checked) false ⟨#[], #[.slice none 0 0, .slice none 0 0, .slice none 0 0, .int .u64 0, .int .i64 0, .int .u8 0, .int .i64 0, .int .i64 0], []⟩ 8 (by kernel_rfl) (by kernel_rfl) (by kernel_rfl) (by kernel_rfl)) ?_
  intro W base args ds gs before hval0 hW hcnd hsz0 _
  have hsz : (DataW.weightsEach Yba.prog (Yba.f3.params.toList ++ Rows.lawS5417BWholeSpec.plain.varTypes Yba.prog) (ds ++ gs)).all (· ≤ reachBytes) = true := hsz0
  have hval : ∀ (j : Nat) t v, Yba.f3.params[j]? = some t → args[j]? = some v → Value.okWide Yba.prog W .any base t v := hval0
  have hW' := hW
  obtain ⟨p, q, hA0, hV, rfl, hfz, hnd⟩ := hW
  have hA : DataW.TrodAll enc Yba.prog W 0 (fun _ => true) true Yba.f3.params.toList args.toList ds p := hA0
  rw [Yba.params3] at hA hval hsz
  obtain ⟨v0, vs0, d0, ds0, p0, q0, hargs, rfl, rfl, h0, r0⟩ := trodAll_cons hA
  obtain ⟨v1, vs1, d1, ds1, p1, q1, rfl, rfl, rfl, h1, r1⟩ := trodAll_cons r0
  obtain ⟨v2, vs2, d2, ds2, p2, q2, rfl, rfl, rfl, h2, r2⟩ := trodAll_cons r1
  obtain ⟨v3, vs3, d3, ds3, p3, q3, rfl, rfl, rfl, h3, r3⟩ := trodAll_cons r2
  obtain ⟨v4, vs4, d4, ds4, p4, q4, rfl, rfl, rfl, h4, r4⟩ := trodAll_cons r3
  obtain ⟨v5, vs5, d5, ds5, p5, q5, rfl, rfl, rfl, h5, r5⟩ := trodAll_cons r4
  obtain ⟨v6, vs6, d6, ds6, p6, q6, rfl, rfl, rfl, h6, r6⟩ := trodAll_cons r5
  obtain ⟨v7, vs7, d7, ds7, p7, q7, rfl, rfl, rfl, h7, r7⟩ := trodAll_cons r6
  obtain ⟨rfl, rfl, rfl⟩ := trodAll_nil r7
  obtain rfl : args = #[v0, v1, v2, v3, v4, v5, v6, v7] := by cases args; simp_all
  obtain ⟨rfl, rfl⟩ := trodVars_none hV
  obtain ⟨a0, len0, cap0, rfl⟩ := okWide_slice Yba.underlying22 (hval 0 22 v0 rfl rfl)
  obtain ⟨a1, len1, cap1, rfl⟩ := okWide_slice Yba.underlying23 (hval 1 23 v1 rfl rfl)
  obtain ⟨a2, len2, cap2, rfl⟩ := okWide_slice Yba.underlying24 (hval 2 24 v2 rfl rfl)
  have k0 := h0
  have k1 := h1
  have k2 := h2
  have lt0 : ∀ x ∈ p0, x.block < W.heap.size := by obtain ⟨m, hm⟩ := k0; exact DataW.trod_lt m _ _ _ hm
  have lt1 : ∀ x ∈ p1, x.block < W.heap.size := by obtain ⟨m, hm⟩ := k1; exact DataW.trod_lt m _ _ _ hm
  have lt2 : ∀ x ∈ p2, x.block < W.heap.size := by obtain ⟨m, hm⟩ := k2; exact DataW.trod_lt m _ _ _ hm
  obtain ⟨⟨ks, s0⟩, l0⟩ : (∃ f : Nat → Int, Nums W .u64 a0 len0 f) ∧ Long d0 len0 := by
    obtain ⟨fuel, hf⟩ := h0
    exact nums_of (cap := cap0) Yba.underlying22 Yba.underlying25 cells25 (x := (d0, p0)) (by simpa [Value.cells] using hf)
  obtain ⟨⟨vs, s1⟩, l1⟩ : (∃ f : Nat → Int, Nums W .i64 a1 len1 f) ∧ Long d1 len1 := by
    obtain ⟨fuel, hf⟩ := h1
    exact nums_of (cap := cap1) Yba.underlying23 Yba.underlying3 cells3 (x := (d1, p1)) (by simpa [Value.cells] using hf)
  obtain ⟨⟨rh, ra, s2⟩, hnil, l2⟩ : (∃ rh ra : Nat → Int, Refs W a2 len2 rh ra) ∧ (a2 = none → len2 = 0 ∧ cap2 = 0) ∧ Long d2 len2 := by
    obtain ⟨fuel, hf⟩ := h2
    exact refs_of (x := (d2, p2)) (by simpa [Value.cells] using hf)
  have b0 := bound_of hsz (j := 0) (t := 22) l0 rfl rfl Yba.underlying22 (by rw [bytes25]; omega)
  have b1 := bound_of hsz (j := 1) (t := 23) l1 rfl rfl Yba.underlying23 (by rw [bytes3]; omega)
  have b2 := bound_of hsz (j := 2) (t := 24) l2 rfl rfl Yba.underlying24 (by rw [bytes29]; omega)
  obtain ⟨a3, rfl, rfl, rfl, w3⟩ := open_int Yba.underlying25 (hval 3 25 v3 rfl rfl) h3
  obtain ⟨a4, rfl, rfl, rfl, w4⟩ := open_int Yba.underlying3 (hval 4 3 v4 rfl rfl) h4
  obtain ⟨a5, rfl, rfl, rfl, w5⟩ := open_int Yba.underlying5 (hval 5 5 v5 rfl rfl) h5
  obtain ⟨a6, rfl, rfl, rfl, w6⟩ := open_int Yba.underlying3 (hval 6 3 v6 rfl rfl) h6
  obtain ⟨a7, rfl, rfl, rfl, w7⟩ := open_int Yba.underlying3 (hval 7 3 v7 rfl rfl) h7
  clear hA0 hval0 hsz hsz0
  refine (walk a0 len0 cap0 a1 len1 cap1 a2 len2 cap2 a3 a4 a5 a6 a7 W ks vs rh ra s0 s1 s2 hnil b0 b1 b2 w3 w4 w5).mono fun e W' ⟨he, bel⟩ => ?_
  subst he
  exact ⟨_, rfl, _, _, _, [], _, [], hW', trodAll_mk1 (shut_bool Yba.underlying4 _), (trodAll_cons_mk (Below.trod laidOut (by kernel_rfl) (of_decide_eq_true (by kernel_rfl)) k0 bel lt0) (trodAll_cons_mk (Below.trod laidOut (by kernel_rfl) (of_decide_eq_true (by kernel_rfl)) k1 bel lt1) (trodAll_cons_mk (Below.trod laidOut (by kernel_rfl) (of_decide_eq_true (by kernel_rfl)) k2 bel lt2) (trodAll_cons_mk (shut_int Yba.underlying25 w3) (trodAll_cons_mk (shut_int Yba.underlying3 w4) (trodAll_cons_mk (shut_int Yba.underlying5 w5) (trodAll_cons_mk (shut_int Yba.underlying3 w6) (trodAll_cons_mk (shut_int Yba.underlying3 w7) trodAll_mk0)))))))), rfl, bel.frame _, fun h => by cases h⟩

theorem over : Rows.lawS5417BWholeRow.holds Yba.pinned (OpenSpec.ofChange Rows.lawS5417BWholeSpec) :=
  OpenClaim.holds_of_wide 3 Yba.f3 rfl rfl rfl rfl rfl rfl rfl ⟨rfl, rfl, rfl, rfl, rfl⟩ rfl rfl rfl rfl rfl (by kernel_rfl) Yba.func3 (by kernel_rfl)
    (of_decide_eq_true (by kernel_rfl)) (by unfold Func.isWrapper; first | (rw [if_pos (by decide +kernel)]; kernel_rfl) | (rw [if_neg (by decide +kernel)]; exact ⟨rfl, rfl⟩))
    (fun os started H enc _ => lifted os started H enc)

/-- THE STATEMENT -/
theorem proved : Rows.LawS5417BWholeSaid := over
end Go.Proofs.Ybulkdhdw.lawS5417BWhole
