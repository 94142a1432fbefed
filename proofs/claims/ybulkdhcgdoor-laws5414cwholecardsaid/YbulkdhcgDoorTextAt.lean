/-
  textAt: the walk.
-/
import Derived.Test.YbulkdhcgDoorTree
namespace Go.Proofs.YbulkdhcgDoor
open Go.RowKit
attribute [local go_sem] Oper.semAt_some wide_fn wide_depth wide_fn_in wide_depth_in

theorem string_bld {B b : Nat} {l : List UInt8} {w : World} (h : Bld B b l w) : Calls Ybad.prog 17 #[.pointer (some ⟨b, 0, none⟩)] w fun e w' => e = .returned (.string ⟨l.toArray⟩) ∧ Below B w w' ∧ KeepsOthers w w' := by
  obtain ⟨hB, ⟨rfl, h⟩ | ⟨hl, h⟩⟩ := h
  · exact string_nil B b _ w h
  · exact string_full B b l w (Or.inr h) hl
theorem below_of {n : Nat} {w W : World} (h : Kept (fun k _ => k < n) w W) (hn : n ≤ w.heap.size := by omega) : Below n w W :=
  ⟨h.os, h.tape, h.output, h.size, fun k hk => by
    obtain ⟨o, ho⟩ : ∃ o, w.heap[k]? = some o := ⟨_, Array.getElem?_eq_getElem (by omega)⟩
    rw [ho]; exact h.block k o ho hk⟩

set_option maxRecDepth 100000 in
set_option maxHeartbeats 4000000 in
theorem textAt_any (d : TreeD) (w : World) (h : d.At w.heap.size w) :
    Calls Ybad.prog 8 #[.pointer (some ⟨d.bt, 0, none⟩), .slice (some ⟨d.bi, 0, none⟩) d.nA d.ci, .slice (some ⟨d.bd, 0, none⟩) d.nA d.cd] w fun e w' => e = .returned (.string ⟨(d.out d.xs).toArray⟩) ∧ Below w.heap.size w w' := by
  have HD : Hid (d.At w.heap.size w) := h
  have x1 := h.l1
  clear h
  refine (callsIn_wide (n := 0)).1 ?_
  refine callsIn_of_wp_marks Ybad.func8 rfl trivial ?_
  simp only [Ybad.ntmps8, List.size_toArray, List.length_cons, List.length_nil, Nat.reduceAdd, Nat.reduceSub, Array.replicate_succ, Array.replicate_zero, List.push_toArray, List.append_toArray, List.nil_append, List.cons_append]
  refine wpIn_wide.2 ?_
  go_wp2_with (go_at_call 14; refine (runs_call _ _).mono ?_; rintro e w' ⟨rfl, hw⟩; subst hw)
  obtain ⟨w6, hw6⟩ : ∃ w6, w6 = (((((w.alloc (.cells #[.pointer (some ⟨d.bt, 0, none⟩)] 29)).alloc (.cells #[.slice (some ⟨d.bi, 0, none⟩) d.nA d.ci] 25)).alloc (.cells #[.slice (some ⟨d.bd, 0, none⟩) d.nA d.cd] 79)).alloc (.cells #[.pointer none, .slice none 0 0] 101)).alloc (.cells #[.pointer (some ⟨d.bt, 3, none⟩)] 111)).alloc (.cells #[.bool true] 4) := ⟨_, rfl⟩
  obtain ⟨S6, F1, F2, F3, F4, F5, F6⟩ := six_heap w _ _ _ _ _ _ w6 hw6
  have K6 : ∀ K', Kept K' w w6 := fun K' => by rw [hw6]; exact kept_six K' w _ _ _ _ _ _
  obtain ⟨K, hK⟩ : ∃ K : Nat → Obj → Prop, K = fun k o => k < w.heap.size ∨ ((k = w.heap.size + 1 + 1 + 1 + 1 ∨ k = w.heap.size + 1 + 1 + 1 + 1 + 1) ∧ ∃ cs T fr, o = .cells cs T fr ∧ T ≠ 5) := ⟨_, rfl⟩
  have kB : ∀ k o, k < w.heap.size → K k o := fun k o h => by rw [hK]; exact Or.inl h
  have kC : ∀ (k : Nat) (o : Obj), w6.heap.size ≤ k → K k o → o.isCells = true := fun k o h hk => by
    rw [hK] at hk
    rcases hk with hk | ⟨hk, _⟩ <;> omega
  have kb : ∀ o, ¬ K (w.heap.size + 1 + 1 + 1) o := fun o hk => by
    rw [hK] at hk
    rcases hk with hk | ⟨hk, _⟩ <;> omega
  have k5 : ∀ g cur, w.heap.size ≤ g → ¬ K g (.cells cur 5 (0, 0)) := fun g cur hg hk => by
    rw [hK] at hk
    rcases hk with hk | ⟨_, cs, T, fr, e, hT⟩
    · omega
    · cases e; exact hT rfl
  have HKb : Hid (∀ o, ¬ K (w.heap.size + 1 + 1 + 1) o) := kb
  have HK5 : Hid (∀ g cur, w.heap.size ≤ g → ¬ K g (.cells cur 5 (0, 0))) := k5
  have HKC : Hid (∀ (k : Nat) (o : Obj), w6.heap.size ≤ k → K k o → o.isCells = true) := kC
  have hseq : ∀ r : Loop, SeqG Ybad.prog 19 #[.pointer (some ⟨w.heap.size + 1 + 1 + 1 + 1, 0, none⟩), .pointer (some ⟨w.heap.size + 1 + 1 + 1 + 1 + 1, 0, none⟩)] renc K d.xs (w6.heap.size + 1) (w6.heap.size + 1 + 1) ((w6.alloc (.deferred (some []))).alloc (.loop r)) := fun r => by
    have K8 : ∀ K', Kept K' w6 ((w6.alloc (.deferred (some []))).alloc (.loop r)) := fun K' => (Kept.alloc K' _ _).trans (Kept.alloc K' _ _)
    have hA := HD.out.kept ((K6 (fun k _ => k < w.heap.size)).trans (K8 _))
    exact runs_iter d.bt 3 d.bL d.nl d.capL _ _ d.v K _ hA.tab ⟨(K8 (fun _ _ => True)).cell (fun _ _ => trivial) (cell_of F5), (K8 (fun _ _ => True)).cell (fun _ _ => trivial) (cell_of F6)⟩ hA.leaves hA.lv hA.nL
      (fun o _ => kB _ o hA.l0) (fun o ho => by rw [(K8 (fun _ _ => True)).block _ _ F5 trivial] at ho; cases ho; rw [hK]; exact Or.inr ⟨Or.inl rfl, _, _, _, rfl, by decide⟩)
      (fun o ho => by rw [(K8 (fun _ _ => True)).block _ _ F6 trivial] at ho; cases ho; rw [hK]; exact Or.inr ⟨Or.inr rfl, _, _, _, rfl, by decide⟩) (fun o _ => kB _ o hA.l1) (fun o _ => kB _ o hA.l5) _ _
  rw [← hw6]
  have HTI : Hid (TI K d w.heap.size w.heap.size w w6 (d.out []) w6) := ⟨⟨by omega, Or.inl ⟨rfl, F4⟩⟩, F1, F2, F3, Kept.refl _ _, fun K' _ _ => K6 K'⟩
  clear x1 F1 F2 F3 F4 F5 F6 hw6 kB kC k5 kb hK
  refine (wpIn_wide (n := 0)).1 (range_law (P := Ybad.prog) (gf := 19) (encs := renc) (K := K) (xs := d.xs) rfl (Go.Proofs.enters_of Ybad.func19 (by kernel_rfl) rfl) hseq HKC.out (fun _ => rfl)
    (fun pre V => TI K d w.heap.size w.heap.size w w6 (d.out pre) V) (TI.own (by omega) _) HTI.out
    (fun x => { tmps := #[.pointer (some ⟨d.bt, 0, none⟩), .slice (some ⟨d.bi, 0, none⟩) d.nA d.ci, .slice (some ⟨d.bd, 0, none⟩) d.nA d.cd, .pointer (some ⟨w.heap.size, 0, none⟩), .pointer (some ⟨w.heap.size + 1, 0, none⟩), .pointer (some ⟨w.heap.size + 1 + 1, 0, none⟩), .string ⟨#[]⟩, .pointer (some ⟨w.heap.size + 1 + 1 + 1, 0, none⟩), .int .u32 (x : Nat), undef, .pointer (some ⟨d.bt, 0, none⟩), .pointer (some ⟨d.bt, 0, none⟩), .pointer (some ⟨d.bt, 3, none⟩), .func (.func 19) #[] #[.pointer (some ⟨w.heap.size + 1 + 1 + 1 + 1, 0, none⟩), .pointer (some ⟨w.heap.size + 1 + 1 + 1 + 1 + 1, 0, none⟩)], .int .u32 (x : Nat), undef, undef, undef, undef, undef, undef, undef, undef, undef, undef, undef, undef, undef, undef, undef, undef, undef, undef, undef, undef, undef, undef, undef, undef, undef, undef, undef, undef, undef, undef, undef, undef, undef, undef, undef, undef, undef], defers := [] }) ?assign ?body ?done)
  case assign =>
    intro l2 x V K3 hK3
    unfold renc
    gi_wp2
    exact hK3
  case body =>
    rintro lp pre x V _ hI hpre
    have HI : Hid (TI K d w.heap.size w.heap.size w w6 (d.out pre) V) := hI
    have hxs : x ∈ d.xs := by obtain ⟨r, hr⟩ := hpre; rw [← hr]; simp
    have hkV : Kept (fun k _ => k < w.heap.size) w V := hI.bk _ (fun _ h => by omega) (fun g _ hg h => by omega)
    have hA := HD.out.kept hkV
    have HA : Hid (d.At w.heap.size V) := hA
    have HOL : Hid ((d.out pre).length ≤ 1099511627776) := by
      obtain ⟨r, hr⟩ := hpre
      have h1 := out_len HD.out pre (fun z hz => by rw [← hr]; simp [hz])
      have h2 := congrArg List.length hr
      have h3 := HD.out.len
      rw [List.length_append, List.length_append] at h2
      have h4 : (d.out pre).length ≤ 1099511627776 := by omega
      exact h4
    obtain ⟨z1, z2, z3, z4, z5, z6⟩ := hA.xlt x hxs
    obtain ⟨a, ha⟩ : ∃ a, a = d.ra x := ⟨_, rfl⟩
    obtain ⟨rn, hrn⟩ : ∃ rn, rn = d.rn x := ⟨_, rfl⟩
    obtain ⟨rl, hrl⟩ : ∃ rl, rl = d.rl x := ⟨_, rfl⟩
    obtain ⟨ii, hii⟩ : ∃ ii, ii = d.ins a := ⟨_, rfl⟩
    obtain ⟨qq, hqq⟩ : ∃ qq, qq = d.q x := ⟨_, rfl⟩
    rw [← ha] at z2 z3 z4
    rw [← hrn] at z3 z5
    rw [← hrl] at z3 z6
    have z7 := hA.ins a z2
    rw [← hii] at z7
    have hns := (hA.ok a z2).small
    have hq1 : qq = if ii < rn + rl then ii else rn + rl := by rw [hqq]; unfold TreeD.q; rw [← hrn, ← hrl, ← ha, ← hii]; split <;> omega
    have HOUT : Hid (d.out (pre ++ [x]) = d.out pre ++ outOf (d.tx a) (d.S a) (List.range' rn (qq - rn))) := by rw [d.out_snoc, ha, hrn, hqq]; trivial
    have hqn : qq ≤ (d.tx a).n := by rw [hq1]; split <;> omega
    have e1 : V.cell? ⟨w.heap.size, 0, none⟩ = some (.pointer (some ⟨d.bt, 0, none⟩)) := cell_of hI.b1
    have e2 : V.cell? ⟨w.heap.size + 1, 0, none⟩ = some (.slice (some ⟨d.bi, 0, none⟩) d.nA d.ci) := cell_of hI.b2
    have e3 : V.cell? ⟨w.heap.size + 1 + 1, 0, none⟩ = some (.slice (some ⟨d.bd, 0, none⟩) d.nA d.cd) := cell_of hI.b3
    obtain ⟨SS, hSS⟩ : ∃ SS : World → Prop, SS = fun W => W.cell? ⟨w.heap.size, 0, none⟩ = some (.pointer (some ⟨d.bt, 0, none⟩)) ∧ W.cell? ⟨w.heap.size + 1, 0, none⟩ = some (.slice (some ⟨d.bi, 0, none⟩) d.nA d.ci) ∧ W.cell? ⟨w.heap.size + 1 + 1, 0, none⟩ = some (.slice (some ⟨d.bd, 0, none⟩) d.nA d.cd) ∧
      W.cell? ⟨d.b0, x * 18, none⟩ = some (.int .u32 (a : Nat)) ∧ W.cell? ⟨d.b0, x * 18 + 1, none⟩ = some (.int .u32 (rn : Nat)) ∧ W.cell? ⟨d.b0, x * 18 + 2, none⟩ = some (.int .u32 (rl : Nat)) ∧ W.cell? ⟨d.bi, a, none⟩ = some (.int .u32 (ii : Nat)) := ⟨_, rfl⟩
    have HSd : Hid (SS V.drew) := by rw [hSS]; exact ⟨e1, e2, e3, z4, z5, z6, z7⟩
    have hat := at_any d.bt d.bc d.b0 d.c0 d.nR d.capR x V hA.runs hA.chunk z1 hA.nR
    have hwc := writeChars_any w.heap.size (w.heap.size + 1 + 1 + 1) d.bt d.bA d.nA d.capA a (d.bp a) (d.bb a) (d.bcap a) (d.bm a) (d.mcap a) d.bd a rn qq (d.tx a) (hA.ok a z2) (d.S a) (d.out pre) V.drew hA.actors z2
      ((hA.txt a z2).kept (K := fun _ _ => True) ((Kept.refl _ V).drew) (fun _ _ => trivial) (fun _ _ => trivial) (fun _ _ => trivial) (fun _ _ => trivial)) ((hA.set a z2).kept (K := fun _ _ => True) ((Kept.refl _ V).drew) (fun _ _ _ => trivial)) (hI.bld.keep (fun _ h => h) (fun _ _ _ h => h)) hqn hA.l1 hA.l2 (hA.l7 a z2).1 (hA.l7 a z2).2.1 (hA.l7 a z2).2.2
      (by have := hkV.size; exact this) (hA.y a z2) HOL.out (by omega)
    have HWC : Hid (Calls Ybad.prog 16 #[.pointer (some ⟨d.bt, 0, none⟩), .pointer (some ⟨w.heap.size + 1 + 1 + 1, 0, none⟩), .int .u32 a, .int .u32 rn, .int .u32 qq, .pointer (some ⟨d.bd, a, none⟩)] V.drew fun e w' => (∃ v, e = .returned v) ∧ Bld w.heap.size (w.heap.size + 1 + 1 + 1) (d.out pre ++ outOf (d.tx a) (d.S a) (List.range' rn (qq - rn))) w' ∧ BKeep w.heap.size (w.heap.size + 1 + 1 + 1) V.drew w') := hwc
    have hmin : (if (ii : Int) < (rn : Int) + (rl : Int) then ((ii : Nat) : Int) else (rn : Int) + (rl : Int)) = ((qq : Nat) : Int) := by rw [hq1]; split <;> split <;> omega
    have hadd : IntKind.u32.wrap ((rn : Int) + (rl : Int)) = (rn : Int) + (rl : Int) := wu32 _ (by omega)
    have hai : (a : Int) < (d.nA : Nat) := by omega
    have HSS : Hid (SS = fun W => W.cell? ⟨w.heap.size, 0, none⟩ = some (.pointer (some ⟨d.bt, 0, none⟩)) ∧ W.cell? ⟨w.heap.size + 1, 0, none⟩ = some (.slice (some ⟨d.bi, 0, none⟩) d.nA d.ci) ∧ W.cell? ⟨w.heap.size + 1 + 1, 0, none⟩ = some (.slice (some ⟨d.bd, 0, none⟩) d.nA d.cd) ∧
      W.cell? ⟨d.b0, x * 18, none⟩ = some (.int .u32 (a : Nat)) ∧ W.cell? ⟨d.b0, x * 18 + 1, none⟩ = some (.int .u32 (rn : Nat)) ∧ W.cell? ⟨d.b0, x * 18 + 2, none⟩ = some (.int .u32 (rl : Nat)) ∧ W.cell? ⟨d.bi, a, none⟩ = some (.int .u32 (ii : Nat))) := hSS
    have HAX : Hid (a = d.ra x ∧ rn = d.rn x ∧ rl = d.rl x ∧ ii = d.ins a) := ⟨ha, hrn, hrl, hii⟩
    clear hI hpre hA hkV z3 z4 z5 z6 z7 ha hrn hrl hii hqq hq1 hqn hwc hSS e2 e3 hns
    gi_wp2_with (gi_at_call 15; refine (CallsIn.inRound lp (callsIn_wide.2 hat)).mono ?_; rintro e w' ⟨rfl, hw⟩; obtain rfl := hw.symm)
    refine region_held_round SS (by kernel_rfl) (by rfl) (by rintro ⟨_, _, h⟩; exact h) ?_
    refine wpAnyH_take (i := 0) (v := .pointer (some ⟨d.bt, 0, none⟩)) rfl (by kernel_rfl) (by kernel_rfl) (by kernel_rfl) (fun _ _ _ h => h) (Or.inl ⟨by rfl, fun W hS => by rw [HSS.out] at hS; obtain ⟨q1, q2, q3, q4, q5, q6, q7⟩ := hS; go_simp⟩) HSd.out ?_
    refine wpAnyH_take (i := 1) (v := .pointer (some ⟨d.b0, x * 18, none⟩)) rfl (by kernel_rfl) (by kernel_rfl) (by kernel_rfl) (fun _ _ _ h => h) (Or.inl ⟨by rfl, fun W hS => by rw [HSS.out] at hS; obtain ⟨q1, q2, q3, q4, q5, q6, q7⟩ := hS; go_simp⟩) HSd.out ?_
    refine wpAnyH_take (i := 2) (v := .pointer (some ⟨d.b0, x * 18, none⟩)) rfl (by kernel_rfl) (by kernel_rfl) (by kernel_rfl) (fun _ _ _ h => h) (Or.inl ⟨by rfl, fun W hS => by rw [HSS.out] at hS; obtain ⟨q1, q2, q3, q4, q5, q6, q7⟩ := hS; go_simp⟩) HSd.out ?_
    refine wpAnyH_take (i := 3) (v := .pointer (some ⟨d.b0, x * 18, none⟩)) rfl (by kernel_rfl) (by kernel_rfl) (by kernel_rfl) (fun _ _ _ h => h) (Or.inl ⟨by rfl, fun W hS => by rw [HSS.out] at hS; obtain ⟨q1, q2, q3, q4, q5, q6, q7⟩ := hS; go_simp⟩) HSd.out ?_
    refine wpAnyH_take (i := 4) (v := .int .u32 (a : Nat)) rfl (by kernel_rfl) (by kernel_rfl) (by kernel_rfl) (fun _ _ _ h => h) (Or.inl ⟨by rfl, fun W hS => by rw [HSS.out] at hS; obtain ⟨q1, q2, q3, q4, q5, q6, q7⟩ := hS; go_simp⟩) HSd.out ?_
    refine wpAnyH_take (i := 5) (v := .pointer (some ⟨d.b0, x * 18, none⟩)) rfl (by kernel_rfl) (by kernel_rfl) (by kernel_rfl) (fun _ _ _ h => h) (Or.inl ⟨by rfl, fun W hS => by rw [HSS.out] at hS; obtain ⟨q1, q2, q3, q4, q5, q6, q7⟩ := hS; go_simp⟩) HSd.out ?_
    refine wpAnyH_take (i := 6) (v := .pointer (some ⟨d.b0, x * 18, none⟩)) rfl (by kernel_rfl) (by kernel_rfl) (by kernel_rfl) (fun _ _ _ h => h) (Or.inl ⟨by rfl, fun W hS => by rw [HSS.out] at hS; obtain ⟨q1, q2, q3, q4, q5, q6, q7⟩ := hS; go_simp⟩) HSd.out ?_
    refine wpAnyH_take (i := 7) (v := .pointer (some ⟨d.b0, x * 18 + 1, none⟩)) rfl (by kernel_rfl) (by kernel_rfl) (by kernel_rfl) (fun _ _ _ h => h) (Or.inl ⟨by rfl, fun W hS => by rw [HSS.out] at hS; obtain ⟨q1, q2, q3, q4, q5, q6, q7⟩ := hS; go_simp⟩) HSd.out ?_
    refine wpAnyH_take (i := 8) (v := .int .u32 (rn : Nat)) rfl (by kernel_rfl) (by kernel_rfl) (by kernel_rfl) (fun _ _ _ h => h) (Or.inl ⟨by rfl, fun W hS => by rw [HSS.out] at hS; obtain ⟨q1, q2, q3, q4, q5, q6, q7⟩ := hS; go_simp⟩) HSd.out ?_
    refine wpAnyH_take (i := 9) (v := .pointer (some ⟨d.b0, x * 18, none⟩)) rfl (by kernel_rfl) (by kernel_rfl) (by kernel_rfl) (fun _ _ _ h => h) (Or.inl ⟨by rfl, fun W hS => by rw [HSS.out] at hS; obtain ⟨q1, q2, q3, q4, q5, q6, q7⟩ := hS; go_simp⟩) HSd.out ?_
    refine wpAnyH_take (i := 10) (v := .pointer (some ⟨d.b0, x * 18, none⟩)) rfl (by kernel_rfl) (by kernel_rfl) (by kernel_rfl) (fun _ _ _ h => h) (Or.inl ⟨by rfl, fun W hS => by rw [HSS.out] at hS; obtain ⟨q1, q2, q3, q4, q5, q6, q7⟩ := hS; go_simp⟩) HSd.out ?_
    refine wpAnyH_take (i := 11) (v := .pointer (some ⟨d.b0, x * 18 + 1, none⟩)) rfl (by kernel_rfl) (by kernel_rfl) (by kernel_rfl) (fun _ _ _ h => h) (Or.inl ⟨by rfl, fun W hS => by rw [HSS.out] at hS; obtain ⟨q1, q2, q3, q4, q5, q6, q7⟩ := hS; go_simp⟩) HSd.out ?_
    refine wpAnyH_take (i := 12) (v := .int .u32 (rn : Nat)) rfl (by kernel_rfl) (by kernel_rfl) (by kernel_rfl) (fun _ _ _ h => h) (Or.inl ⟨by rfl, fun W hS => by rw [HSS.out] at hS; obtain ⟨q1, q2, q3, q4, q5, q6, q7⟩ := hS; go_simp⟩) HSd.out ?_
    refine wpAnyH_take (i := 13) (v := .pointer (some ⟨d.b0, x * 18, none⟩)) rfl (by kernel_rfl) (by kernel_rfl) (by kernel_rfl) (fun _ _ _ h => h) (Or.inl ⟨by rfl, fun W hS => by rw [HSS.out] at hS; obtain ⟨q1, q2, q3, q4, q5, q6, q7⟩ := hS; go_simp⟩) HSd.out ?_
    refine wpAnyH_take (i := 14) (v := .pointer (some ⟨d.b0, x * 18, none⟩)) rfl (by kernel_rfl) (by kernel_rfl) (by kernel_rfl) (fun _ _ _ h => h) (Or.inl ⟨by rfl, fun W hS => by rw [HSS.out] at hS; obtain ⟨q1, q2, q3, q4, q5, q6, q7⟩ := hS; go_simp⟩) HSd.out ?_
    refine wpAnyH_take (i := 15) (v := .pointer (some ⟨d.b0, x * 18 + 2, none⟩)) rfl (by kernel_rfl) (by kernel_rfl) (by kernel_rfl) (fun _ _ _ h => h) (Or.inl ⟨by rfl, fun W hS => by rw [HSS.out] at hS; obtain ⟨q1, q2, q3, q4, q5, q6, q7⟩ := hS; go_simp⟩) HSd.out ?_
    refine wpAnyH_take (i := 16) (v := .int .u32 (rl : Nat)) rfl (by kernel_rfl) (by kernel_rfl) (by kernel_rfl) (fun _ _ _ h => h) (Or.inl ⟨by rfl, fun W hS => by rw [HSS.out] at hS; obtain ⟨q1, q2, q3, q4, q5, q6, q7⟩ := hS; go_simp⟩) HSd.out ?_
    refine wpAnyH_take (i := 17) (v := .int .u32 ((rn : Int) + (rl : Int))) rfl (by kernel_rfl) (by kernel_rfl) (by kernel_rfl) (fun _ _ _ h => h) (Or.inl ⟨by rfl, fun W hS => by rw [HSS.out] at hS; obtain ⟨q1, q2, q3, q4, q5, q6, q7⟩ := hS; go_simp⟩) HSd.out ?_
    refine wpAnyH_take (i := 18) (v := .slice (some ⟨d.bi, 0, none⟩) d.nA d.ci) rfl (by kernel_rfl) (by kernel_rfl) (by kernel_rfl) (fun _ _ _ h => h) (Or.inl ⟨by rfl, fun W hS => by rw [HSS.out] at hS; obtain ⟨q1, q2, q3, q4, q5, q6, q7⟩ := hS; go_simp⟩) HSd.out ?_
    refine wpAnyH_take (i := 19) (v := .pointer (some ⟨d.b0, x * 18, none⟩)) rfl (by kernel_rfl) (by kernel_rfl) (by kernel_rfl) (fun _ _ _ h => h) (Or.inl ⟨by rfl, fun W hS => by rw [HSS.out] at hS; obtain ⟨q1, q2, q3, q4, q5, q6, q7⟩ := hS; go_simp⟩) HSd.out ?_
    refine wpAnyH_take (i := 20) (v := .pointer (some ⟨d.b0, x * 18, none⟩)) rfl (by kernel_rfl) (by kernel_rfl) (by kernel_rfl) (fun _ _ _ h => h) (Or.inl ⟨by rfl, fun W hS => by rw [HSS.out] at hS; obtain ⟨q1, q2, q3, q4, q5, q6, q7⟩ := hS; go_simp⟩) HSd.out ?_
    refine wpAnyH_take (i := 21) (v := .pointer (some ⟨d.b0, x * 18, none⟩)) rfl (by kernel_rfl) (by kernel_rfl) (by kernel_rfl) (fun _ _ _ h => h) (Or.inl ⟨by rfl, fun W hS => by rw [HSS.out] at hS; obtain ⟨q1, q2, q3, q4, q5, q6, q7⟩ := hS; go_simp⟩) HSd.out ?_
    refine wpAnyH_take (i := 22) (v := .int .u32 (a : Nat)) rfl (by kernel_rfl) (by kernel_rfl) (by kernel_rfl) (fun _ _ _ h => h) (Or.inl ⟨by rfl, fun W hS => by rw [HSS.out] at hS; obtain ⟨q1, q2, q3, q4, q5, q6, q7⟩ := hS; go_simp⟩) HSd.out ?_
    refine wpAnyH_take (i := 23) (v := .pointer (some ⟨d.bi, a, none⟩)) rfl (by kernel_rfl) (by kernel_rfl) (by kernel_rfl) (fun _ _ _ h => h) (Or.inl ⟨by rfl, fun W hS => by rw [HSS.out] at hS; obtain ⟨q1, q2, q3, q4, q5, q6, q7⟩ := hS; go_simp⟩) HSd.out ?_
    refine wpAnyH_take (i := 24) (v := .int .u32 (ii : Nat)) rfl (by kernel_rfl) (by kernel_rfl) (by kernel_rfl) (fun _ _ _ h => h) (Or.inl ⟨by rfl, fun W hS => by rw [HSS.out] at hS; obtain ⟨q1, q2, q3, q4, q5, q6, q7⟩ := hS; go_simp⟩) HSd.out ?_
    refine wpAnyH_take (i := 25) (v := .int .u32 (qq : Nat)) rfl (by kernel_rfl) (by kernel_rfl) (by kernel_rfl) (fun _ _ _ h => h) (Or.inl ⟨by rfl, fun W hS => by rw [HSS.out] at hS; obtain ⟨q1, q2, q3, q4, q5, q6, q7⟩ := hS; go_simp⟩) HSd.out ?_
    refine wpAnyH_take (i := 26) (v := .slice (some ⟨d.bd, 0, none⟩) d.nA d.cd) rfl (by kernel_rfl) (by kernel_rfl) (by kernel_rfl) (fun _ _ _ h => h) (Or.inl ⟨by rfl, fun W hS => by rw [HSS.out] at hS; obtain ⟨q1, q2, q3, q4, q5, q6, q7⟩ := hS; go_simp⟩) HSd.out ?_
    refine wpAnyH_take (i := 27) (v := .pointer (some ⟨d.b0, x * 18, none⟩)) rfl (by kernel_rfl) (by kernel_rfl) (by kernel_rfl) (fun _ _ _ h => h) (Or.inl ⟨by rfl, fun W hS => by rw [HSS.out] at hS; obtain ⟨q1, q2, q3, q4, q5, q6, q7⟩ := hS; go_simp⟩) HSd.out ?_
    refine wpAnyH_take (i := 28) (v := .pointer (some ⟨d.b0, x * 18, none⟩)) rfl (by kernel_rfl) (by kernel_rfl) (by kernel_rfl) (fun _ _ _ h => h) (Or.inl ⟨by rfl, fun W hS => by rw [HSS.out] at hS; obtain ⟨q1, q2, q3, q4, q5, q6, q7⟩ := hS; go_simp⟩) HSd.out ?_
    refine wpAnyH_take (i := 29) (v := .pointer (some ⟨d.b0, x * 18, none⟩)) rfl (by kernel_rfl) (by kernel_rfl) (by kernel_rfl) (fun _ _ _ h => h) (Or.inl ⟨by rfl, fun W hS => by rw [HSS.out] at hS; obtain ⟨q1, q2, q3, q4, q5, q6, q7⟩ := hS; go_simp⟩) HSd.out ?_
    refine wpAnyH_take (i := 30) (v := .int .u32 (a : Nat)) rfl (by kernel_rfl) (by kernel_rfl) (by kernel_rfl) (fun _ _ _ h => h) (Or.inl ⟨by rfl, fun W hS => by rw [HSS.out] at hS; obtain ⟨q1, q2, q3, q4, q5, q6, q7⟩ := hS; go_simp⟩) HSd.out ?_
    refine wpAnyH_take (i := 31) (v := .pointer (some ⟨d.bd, a, none⟩)) rfl (by kernel_rfl) (by kernel_rfl) (by kernel_rfl) (fun _ _ _ h => h) (Or.inl ⟨by rfl, fun W hS => by rw [HSS.out] at hS; obtain ⟨q1, q2, q3, q4, q5, q6, q7⟩ := hS; go_simp⟩) HSd.out ?_
    refine wpAnyH_all (rs := [32]) (by kernel_rfl) (by simp) ?_
    intro i hi
    obtain rfl := List.mem_singleton.1 hi
    refine wpOp_step rfl (fun K9 hK9 => ?_)
    go_simp
    refine HWC.out.mono ?_
    rintro e V2 ⟨⟨v, rfl⟩, hb2, hk2⟩
    have hk3 : BKeep w.heap.size (w.heap.size + 1 + 1 + 1) V V2 := fun K' h1 h2 => ((Kept.refl K' V).drew).trans (hk2 K' h1 h2)
    have hst := HI.out.step hk3 (l1 := d.out (pre ++ [x])) (by rw [HOUT.out]; exact hb2) HKb.out HK5.out
    have HST : Hid (KeepsFrom w6.heap.size V V2 ∧ Kept K V V2 ∧ TI K d w.heap.size w.heap.size w w6 (d.out (pre ++ [x])) V2) := hst
    simp only
    refine hK9 _ _ ⟨?_, ?_⟩
    · obtain ⟨_, _, _, y4, y5, y6⟩ := (HA.out.kept (hk3 _ (fun _ h => by omega) (fun g _ hg h => by omega))).xlt x hxs
      have y7 := (HA.out.kept (hk3 _ (fun _ h => by omega) (fun g _ hg h => by omega))).ins a z2
      rw [HSS.out]
      rw [← HAX.out.1] at y4
      rw [← HAX.out.2.1] at y5
      rw [← HAX.out.2.2.1] at y6
      rw [← HAX.out.2.2.2] at y7
      exact ⟨cell_of hst.2.2.b1, cell_of hst.2.2.b2, cell_of hst.2.2.b3, y4, y5, y6, y7⟩
    · refine wpAnyH_done (by kernel_rfl) ?_ _
      clear hK9 hst hk3 hk2 hb2
      gi_wp2
      exact HST.out
  case done =>
    rintro V hI hD
    have HI : Hid (TI K d w.heap.size w.heap.size w w6 (d.out d.xs) V) := hI
    clear hI
    have hstr := string_bld HI.out.bld
    have hB0 : Below w.heap.size w V := below_of (HI.out.bk (fun k _ => k < w.heap.size) (fun _ h => by omega) (fun g _ hg h => by omega))
    go_wp2_with (go_at_call 17; refine hstr.mono ?_; rintro e V2 ⟨rfl, hbel, hko⟩)
    have hD2 := hko.same _ _ hD rfl
    rw [S6] at hD2
    refine ⟨by simp, .inl ⟨_, _, rfl, run_takeDeferred hD2, ?_⟩⟩
    refine ⟨_, results_tmp rfl _ _ _, rfl, (hB0.trans hbel).trans ⟨rfl, rfl, rfl, by simp, fun k hk => World.putObj_heap_other (by omega)⟩⟩
end Go.Proofs.YbulkdhcgDoor
