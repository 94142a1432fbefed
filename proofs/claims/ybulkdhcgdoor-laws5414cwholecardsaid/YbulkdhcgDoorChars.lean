/-
  The iterator 'chars'.
-/
import Derived.Test.YbulkdhcgDoorPiecesW
import Derived.Test.YbulkdhcgDoorRound
import Derived.RangeFuncBox
import Derived.Shelf.Abstract
namespace Go.Proofs.YbulkdhcgDoor
open Go.RowKit
attribute [local go_sem] Oper.semAt_some wide_fn wide_depth wide_fn_in wide_depth_in

theorem pieces_call (p : Option Addr) (f q : Int) (w : World) :
    Calls Ybad.prog 21 #[.pointer p, .int .u32 f, .int .u32 q] w fun e w' => e = .returned (.func (.func 25) #[] #[.pointer (some ⟨w.heap.size + 1, 0, none⟩), .pointer (some ⟨w.heap.size + 1 + 1, 0, none⟩), .pointer (some ⟨w.heap.size, 0, none⟩)]) ∧
      w' = ((w.alloc (.cells #[.pointer p] 87)).alloc (.cells #[.int .u32 f] 37)).alloc (.cells #[.int .u32 q] 37) := by
  go_enter Ybad.func21, Ybad.ntmps21
  go_wp2
  go_ret
  exact ⟨rfl, rfl⟩
theorem chars_call (p : Option Addr) (f q : Int) (w : World) :
    Calls Ybad.prog 23 #[.pointer p, .int .u32 f, .int .u32 q] w fun e w' => e = .returned (.func (.func 29) #[] #[.pointer (some ⟨w.heap.size, 0, none⟩), .pointer (some ⟨w.heap.size + 1, 0, none⟩), .pointer (some ⟨w.heap.size + 1 + 1, 0, none⟩)]) ∧
      w' = ((w.alloc (.cells #[.pointer p] 87)).alloc (.cells #[.int .u32 f] 37)).alloc (.cells #[.int .u32 q] 37) := by
  go_enter Ybad.func23, Ybad.ntmps23
  go_wp2
  go_ret
  exact ⟨rfl, rfl⟩

/-- what chars' yield is handed: character k. -/
def cenc (t : Mk) (bb bcap : Nat) (k : Nat) : Array Value := #[.slice (some ⟨bb, t.off k, none⟩) (t.off (k + 1) - t.off k) (bcap - t.off k)]

theorem pieces_none (b1 b2 b3 ba oa bb bcap f q : Nat) (t : Mk) (K : Nat → Obj → Prop) (W : World) (hC : Capt W b1 b2 b3 ba oa f q) (hfq : q ≤ f) (l B : Nat) :
    SeqG Ybad.prog 25 #[.pointer (some ⟨b1, 0, none⟩), .pointer (some ⟨b2, 0, none⟩), .pointer (some ⟨b3, 0, none⟩)] (penc t bb bcap) K [] l B W := by
  intro J hJ hY h0
  have c1 := hC.c1
  have c2 := hC.c2
  have HJ0 : Hid (J [] W) := h0
  have hfi : (q : Int) ≤ (f : Int) := by omega
  clear hY h0
  refine callsIn_wide.2 ?_
  go_enter Ybad.func25, Ybad.ntmps25
  go_wp2
  refine bodyPost_ret (results_none rfl _ _ _) rfl ?_
  exact ⟨⟨_, rfl⟩, HJ0.out⟩

theorem KAt.alloc {K : Nat → Obj → Prop} {A : World} {b : Nat} (h : KAt K A b) (hb : b < A.heap.size) (o : Obj) : KAt K (A.alloc o) b := fun o' ho => h o' ((Below.heap_alloc A o b hb).symm.trans ho)
theorem KAt.up {K : Nat → Obj → Prop} {A A' : World} {b : Nat} (hk : Kept K A A') (h : KAt K A b) (hb : b < A.heap.size) : KAt K A' b := fun o' ho => by
  obtain ⟨o, h0⟩ : ∃ o, A.heap[b]? = some o := ⟨_, Array.getElem?_eq_getElem hb⟩
  have := hk.block b o h0 (h o h0)
  obtain rfl := Option.some.inj (this.symm.trans ho)
  exact h _ h0
theorem own_kept {β : Type} {K : Nat → Obj → Prop} {A : World} {B : Nat} (hB : A.heap.size ≤ B) : OwnFrom B (fun (_ : β) V => Kept K A V) := fun _ X Y row hs hg hr =>
  ⟨hg.os.trans hs.os, hg.tape.trans hs.tape, hg.output.trans hs.output, Nat.le_trans hs.size hg.size, fun b o hb hk => by
    have hX := hs.block b o hb hk
    refine (hg.block b (Array.getElem?_eq_some_iff.1 hX).1 (fun e => ?_)).trans hX
    have h1 := (hr b e.symm).1
    have h2 := (Array.getElem?_eq_some_iff.1 hb).1
    omega⟩
theorem own_le {β : Type} {B B' : Nat} {J : β → World → Prop} (h : OwnFrom B J) (hB : B ≤ B') : OwnFrom B' J := fun s X Y row hs hg hr => h s X Y row hs hg (fun r e => ⟨Nat.le_trans hB (hr r e).1, (hr r e).2⟩)

theorem four_heap (W : World) (o1 o2 o3 o4 : Obj) : ((((W.alloc o1).alloc o2).alloc o3).alloc o4).heap[W.heap.size]? = some o1 ∧ ((((W.alloc o1).alloc o2).alloc o3).alloc o4).heap[W.heap.size + 1]? = some o2 ∧
    ((((W.alloc o1).alloc o2).alloc o3).alloc o4).heap[W.heap.size + 1 + 1]? = some o3 ∧ ((((W.alloc o1).alloc o2).alloc o3).alloc o4).heap[W.heap.size + 1 + 1 + 1]? = some o4 := by
  have h1 := World.alloc_heap_new W o1
  have h2 := World.alloc_heap_new (W.alloc o1) o2
  have h3 := World.alloc_heap_new ((W.alloc o1).alloc o2) o3
  have h4 := World.alloc_heap_new (((W.alloc o1).alloc o2).alloc o3) o4
  simp only [World.size_alloc] at h2 h3 h4
  refine ⟨?_, ?_, ?_, h4⟩
  · rw [Below.heap_alloc _ _ _ (by simp; omega), Below.heap_alloc _ _ _ (by simp; omega), Below.heap_alloc _ _ _ (by simp)]; exact h1
  · rw [Below.heap_alloc _ _ _ (by simp), Below.heap_alloc _ _ _ (by simp)]; exact h2
  · rw [Below.heap_alloc _ _ _ (by simp)]; exact h3
theorem cell_of {W : World} {b : Nat} {v : Value} {T : TypeId} {fr : Nat × Nat} (h : W.heap[b]? = some (.cells #[v] T fr)) : W.cell? ⟨b, 0, none⟩ = some v := by
  unfold World.cell?; simp only [h]; rfl

/-- where the pieces end that have come. -/
def endOf (f : Nat) (pre : List (Nat × Nat × Nat)) : Nat := pre.foldl (fun _ x => x.2.2) f
theorem endOf_snoc (f : Nat) (pre : List (Nat × Nat × Nat)) (x : Nat × Nat × Nat) : endOf f (pre ++ [x]) = x.2.2 := by unfold endOf; rw [List.foldl_append]; rfl
theorem cover_pre : ∀ (pre : List (Nat × Nat × Nat)) (x : Nat × Nat × Nat) (r : List (Nat × Nat × Nat)) (f q : Nat), Cover (pre ++ x :: r) f q → f ≤ x.2.1 ∧ x.2.1 = endOf f pre ∧ x.2.1 < x.2.2 ∧ x.2.2 ≤ q
  | [], x, r, f, q, h => ⟨Nat.le_of_eq h.1.symm, h.1, by have := h.2.1; have := h.1; omega, h.2.2.1⟩
  | y :: pre, x, r, f, q, h => by
    obtain ⟨h1, h2, h3, h4⟩ := h
    obtain ⟨g1, g2, g3, g4⟩ := cover_pre pre x r y.2.2 q h4
    exact ⟨by omega, by rw [g2]; rfl, g3, g4⟩
theorem cover_end : ∀ (xs : List (Nat × Nat × Nat)) (f q : Nat), Cover xs f q → endOf f xs = q
  | [], f, q, h => h
  | y :: xs, f, q, h => by
    have := cover_end xs y.2.2 q h.2.2.2
    rw [← this]; rfl

/-- a slice's length. -/
def lenV : Value → Nat
  | .slice _ n _ => n
  | _ => 0
theorem range_snoc (f k : Nat) (h : f ≤ k) : List.range' f (k - f) ++ [k] = List.range' f (k + 1 - f) := by
  have e : k + 1 - f = (k - f) + 1 := by omega
  rw [e, List.range'_concat]
  simp; omega
theorem range_pre (f k q : Nat) (h1 : f ≤ k) (h2 : k < q) : (List.range' f (k - f) ++ [k]) <+: List.range' f (q - f) := by
  rw [range_snoc f k h1]
  refine ⟨List.range' (k + 1) (q - (k + 1)), ?_⟩
  have := List.range'_append (s := f) (m := k + 1 - f) (n := q - (k + 1)) (step := 1)
  have e1 : f + 1 * (k + 1 - f) = k + 1 := by omega
  have e2 : k + 1 - f + (q - (k + 1)) = q - f := by omega
  rw [e1, e2] at this
  exact this

set_option maxRecDepth 100000 in
set_option maxHeartbeats 4000000 in
theorem chars_iter (ba oa bp bb bcap bm mcap : Nat) (t : Mk) (ht : t.Ok) (b1 b2 b3 f q : Nat) (K : Nat → Obj → Prop) (W : World) (hT : TextAt W ba oa bp bb bcap bm mcap t) (hC : Capt W b2 b3 b1 ba oa f q)
    (k4 : KAt K W ba) (k5 : KAt K W bp) (k6 : KAt K W bb) (k7 : KAt K W bm) (hKn : ∀ b cs T fr, W.heap.size ≤ b → T ≠ 5 → K b (.cells cs T fr)) (hKc : ∀ b o, W.heap.size ≤ b → K b o → o.isCells = true)
    (hq : q ≤ t.n) (l B : Nat) (hB : B ≤ W.heap.size) :
    SeqG Ybad.prog 29 #[.pointer (some ⟨b1, 0, none⟩), .pointer (some ⟨b2, 0, none⟩), .pointer (some ⟨b3, 0, none⟩)] (cenc t bb bcap) K (List.range' f (q - f)) l B W := by
  intro J hJ hY h0
  have HT : Hid (TextAt W ba oa bp bb bcap bm mcap t) := hT
  have HO : Hid t.Ok := ht
  have HJ : Hid (OwnFrom B J) := hJ
  have H00 : Hid (J [] W) := h0
  have HY : Hid (∀ pre x V, J pre V → (pre ++ [x]) <+: List.range' f (q - f) → YieldAt Fence.wide 0 Ybad.prog l (cenc t bb bcap x) V fun e V' => e = .returned (.bool true) ∧ J (pre ++ [x]) V' ∧ Kept K V V' ∧ KeepsFrom B V V') := hY
  have HKN : Hid (∀ b cs T fr, W.heap.size ≤ b → T ≠ 5 → K b (.cells cs T fr)) := hKn
  have HKC : Hid (∀ b o, W.heap.size ≤ b → K b o → o.isCells = true) := hKc
  have HB : Hid (B ≤ W.heap.size) := hB
  have c1 := hC.c1
  have c2 := hC.c2
  have c3 := hC.c3
  have l1 := World.block_lt_of_cell? W _ c1
  have l2 := World.block_lt_of_cell? W _ c2
  have l3 := World.block_lt_of_cell? W _ c3
  have HL : Hid (ba < W.heap.size ∧ bp < W.heap.size ∧ bm < W.heap.size) := ⟨World.block_lt_of_cell? W _ hT.ptr, World.block_lt_of_cell? W _ hT.box, World.block_lt_of_cell? W _ (hT.cn 0 ht.pos)⟩
  clear hT ht hJ h0 hY hKn hKc hC hB
  simp only at l1 l2 l3
  refine callsIn_of_wp_marks Ybad.func29 rfl trivial ?_
  simp only [Ybad.ntmps29, List.size_toArray, List.length_cons, List.length_nil, Nat.reduceAdd, Nat.reduceSub, Array.replicate_succ, Array.replicate_zero, List.push_toArray, List.append_toArray, List.nil_append, List.cons_append]
  refine wpIn_wide.2 ?_
  go_wp2_with (go_at_call 21; refine (pieces_call _ _ _ _).mono ?_; rintro e w' ⟨rfl, hw⟩; subst hw)
  obtain ⟨W4, hW4⟩ : ∃ W4, W4 = (((W.alloc (.cells #[.func (.yield l) #[] #[]] 128)).alloc (.cells #[.pointer (some ⟨ba, oa, none⟩)] 87)).alloc (.cells #[.int .u32 (f : Nat)] 37)).alloc (.cells #[.int .u32 (q : Nat)] 37) := ⟨_, rfl⟩
  have S4 : W4.heap.size = W.heap.size + 4 := by rw [hW4]; simp
  have K4 : ∀ K', Kept K' W W4 := fun K' => by rw [hW4]; exact (((Kept.alloc K' _ _).trans (Kept.alloc K' _ _)).trans (Kept.alloc K' _ _)).trans (Kept.alloc K' _ _)
  have J4 : Hid (J [] W4) := by rw [hW4]; exact HJ.out.alloc _ (HJ.out.alloc _ (HJ.out.alloc _ (HJ.out.alloc _ H00.out)))
  have F4 : W4.heap[W.heap.size]? = some (.cells #[.func (.yield l) #[] #[]] 128) ∧ W4.heap[W.heap.size + 1]? = some (.cells #[.pointer (some ⟨ba, oa, none⟩)] 87) ∧ W4.heap[W.heap.size + 1 + 1]? = some (.cells #[.int .u32 (f : Nat)] 37) ∧ W4.heap[W.heap.size + 1 + 1 + 1]? = some (.cells #[.int .u32 (q : Nat)] 37) := by rw [hW4]; exact four_heap W _ _ _ _
  have C4 : Capt W4 (W.heap.size + 1 + 1) (W.heap.size + 1 + 1 + 1) (W.heap.size + 1) ba oa f q := ⟨cell_of F4.2.2.1, cell_of F4.2.2.2, cell_of F4.2.1⟩
  have T4 : TextAt W4 ba oa bp bb bcap bm mcap t := HT.out.kept (K4 K) k4 k5 k6 k7
  have hl := HL.out
  have hkb : ∀ {b : Nat}, b < W.heap.size → KAt K W b → ∀ r : Obj, KAt K ((W4.alloc (.deferred (some []))).alloc r) b := fun {b} hb hk r => by
    have h4 : KAt K W4 b := by rw [hW4]; exact (((hk.alloc hb _).alloc (by simp; omega) _).alloc (by simp; omega) _).alloc (by simp; omega) _
    exact (h4.alloc (by omega) _).alloc (by simp; omega) _
  have hkn : ∀ {b : Nat} {v : Value} {T : TypeId}, W.heap.size ≤ b → W4.heap[b]? = some (.cells #[v] T) → T ≠ 5 → ∀ r : Obj, KAt K ((W4.alloc (.deferred (some []))).alloc r) b := fun {b v T} hb hv hT r => by
    have h4 : KAt K W4 b := fun o ho => by rw [hv] at ho; cases ho; exact HKN.out _ _ _ _ hb hT
    have hlt := (Array.getElem?_eq_some_iff.1 hv).1
    exact (h4.alloc hlt _).alloc (by simp; omega) _
  obtain ⟨xs, hx1, hx2, hseq⟩ : ∃ xs, (f < q → Cover xs f q) ∧ (q ≤ f → xs = []) ∧ ∀ r : Loop, SeqG Ybad.prog 25 #[.pointer (some ⟨W.heap.size + 1 + 1, 0, none⟩), .pointer (some ⟨W.heap.size + 1 + 1 + 1, 0, none⟩), .pointer (some ⟨W.heap.size + 1, 0, none⟩)] (penc t bb bcap) K xs (W4.heap.size + 1) (W4.heap.size + 1 + 1) ((W4.alloc (.deferred (some []))).alloc (.loop r)) := by
    by_cases hfq : f < q
    · obtain ⟨i0, h1, h2, h3⟩ := HO.out.find f (by omega)
      refine ⟨_, fun _ => pcs_cover HO.out q hq (t.m - i0) i0 f rfl h1 h2 h3 hfq, fun h => by omega, fun r => ?_⟩
      have K5 : ∀ K', Kept K' W4 ((W4.alloc (.deferred (some []))).alloc (.loop r)) := fun K' => (Kept.alloc K' _ _).trans (Kept.alloc K' _ _)
      exact pieces_iter ba oa bp bb bcap bm mcap t HO.out _ _ _ f q K _ (HT.out.kept ((K4 K).trans (K5 K)) k4 k5 k6 k7)
        ⟨(K5 (fun _ _ => True)).cell (fun _ _ => trivial) C4.c1, (K5 (fun _ _ => True)).cell (fun _ _ => trivial) C4.c2, (K5 (fun _ _ => True)).cell (fun _ _ => trivial) C4.c3⟩
        (hkn (by omega) F4.2.2.1 (by decide) _) (hkn (by omega) F4.2.2.2 (by decide) _) (hkn (by omega) F4.2.1 (by decide) _) (hkb hl.1 k4 _) (hkb hl.2.1 k5 _)
        (fun o ho => by
          have hb : bb < W.heap.size := World.block_lt_of_cell? W ⟨bb, 0, none⟩ (HT.out.bytes 0 (by have := HO.out.offs.strict (i := 0) (j := t.n) (by omega) (Nat.le_refl _); omega))
          exact hkb hb k6 _ o ho)
        (hkb hl.2.2 k7 _) hfq hq _ _ i0 h1 h2 h3
    · refine ⟨[], fun h => absurd h hfq, fun _ => rfl, fun r => ?_⟩
      have K5 : ∀ K', Kept K' W4 ((W4.alloc (.deferred (some []))).alloc (.loop r)) := fun K' => (Kept.alloc K' _ _).trans (Kept.alloc K' _ _)
      exact pieces_none _ _ _ ba oa bb bcap f q t K _ ⟨(K5 (fun _ _ => True)).cell (fun _ _ => trivial) C4.c1, (K5 (fun _ _ => True)).cell (fun _ _ => trivial) C4.c2, (K5 (fun _ _ => True)).cell (fun _ _ => trivial) C4.c3⟩ (by omega) _ _
  rw [← hW4]
  have HF4 : Hid (W4.heap[W.heap.size]? = some (.cells #[.func (.yield l) #[] #[]] 128)) := F4.1
  have HT4 : Hid (TextAt W4 ba oa bp bb bcap bm mcap t) := T4
  have HX1 : Hid (f < q → Cover xs f q) := hx1
  have HX2 : Hid (q ≤ f → xs = []) := hx2
  have J4r : Hid (J (List.range' f (endOf f [] - f)) W4) := by
    have e : endOf f [] - f = 0 := by unfold endOf; simp
    rw [e]; exact J4.out
  clear c1 c2 c3 l1 l2 l3 hW4 F4 C4 T4 hkb hkn hl hx1 hx2
  refine (wpIn_wide (n := 0)).1 (range_law (P := Ybad.prog) (gf := 25) (encs := penc t bb bcap) (K := K) (xs := xs) rfl (Go.Proofs.enters_of Ybad.func25 (by kernel_rfl) rfl) hseq (fun b o hb hk => HKC.out b o (by omega) hk) (fun _ => rfl)
    (fun pre V => J (List.range' f (endOf f pre - f)) V ∧ Kept K W4 V) (OwnFrom.and (fun pre X Y row hs hg hr => own_le HJ.out (by have := HB.out; omega) _ X Y row hs hg hr) (own_kept (Nat.le_refl _))) ⟨J4r.out, Kept.refl _ _⟩
    (fun x => { tmps := #[.func (.yield l) #[] #[], .pointer (some ⟨b1, 0, none⟩), .pointer (some ⟨b2, 0, none⟩), .pointer (some ⟨b3, 0, none⟩), .pointer (some ⟨W.heap.size, 0, none⟩), .slice (some ⟨bb, t.off x.2.1, none⟩) (t.off x.2.2 - t.off x.2.1) (bcap - t.off x.2.1), undef,
      .pointer (some ⟨ba, oa, none⟩), .int .u32 (f : Nat), .int .u32 (q : Nat), .func (.func 25) #[] #[.pointer (some ⟨W.heap.size + 1 + 1, 0, none⟩), .pointer (some ⟨W.heap.size + 1 + 1 + 1, 0, none⟩), .pointer (some ⟨W.heap.size + 1, 0, none⟩)], .slice (some ⟨bb, t.off x.2.1, none⟩) (t.off x.2.2 - t.off x.2.1) (bcap - t.off x.2.1), .bool (t.mw x.1), undef, undef, undef, undef, undef, undef, undef, undef, undef, undef, undef, undef, undef, undef, undef, undef], defers := [] }) ?assign ?body ?done)
  case assign =>
    intro l2 x V K3 hK3
    unfold penc
    gi_wp2
    exact hK3
  case body =>
    rintro l2 pre ⟨i, k0, k1⟩ V hl2 ⟨hj, hk⟩ ⟨r, hr⟩
    have hfq : f < q := by
      by_cases h : f < q
      · exact h
      · have := HX2.out (by omega)
        rw [this] at hr
        simp at hr
    have hcov := HX1.out hfq
    rw [← hr, List.append_assoc] at hcov
    obtain ⟨g1, g2, g3, g4⟩ := cover_pre pre (i, k0, k1) r f q hcov
    simp only at g1 g2 g3 g4
    rw [← g2] at hj
    have HJV : Hid (J (List.range' f (k0 - f)) V) := hj
    have HKV : Hid (Kept K W4 V) := hk
    have HG : Hid (endOf f (pre ++ [(i, k0, k1)]) = k1) := endOf_snoc _ _ _
    clear hj hk hcov hr g2
    simp only
    have hst := HO.out.offs.strict g3 (by omega)
    gi_wp2
    gi_loopw [5] (fun p wr => (∃ k : Nat, p = .slice (some ⟨bb, t.off k, none⟩) (t.off k1 - t.off k) (bcap - t.off k) ∧ k0 ≤ k ∧ k < k1 ∧ J (List.range' f (k - f)) wr ∧ Kept K V wr ∧ KeepsFrom W4.heap.size V wr) ∨
      (∃ a c, p = .slice a 0 c ∧ J (List.range' f (k1 - f)) wr ∧ Kept K V wr ∧ KeepsFrom W4.heap.size V wr)) (fun p _ => lenV p)
    case atStart => exact Or.inl ⟨k0, rfl, Nat.le_refl _, g3, HJV.out, Kept.refl _ _, KeepsFrom.refl _ _⟩
    case round =>
      rcases hrel with ⟨k, rfl, hk0, hk1, hj, hkp, hkf⟩ | ⟨a, c, rfl, hj, hkp, hkf⟩
      · have HJk : Hid (J (List.range' f (k - f)) wr) := hj
        have HKk : Hid (Kept K V wr) := hkp
        have HFk : Hid (KeepsFrom W4.heap.size V wr) := hkf
        clear hj hkp hkf
        have hTw := HT4.out.kept (HKV.out.trans HKk.out) (KAt.up (K4 K) k4 HL.out.1) (KAt.up (K4 K) k5 HL.out.2.1) (KAt.up (K4 K) k6 (World.block_lt_of_cell? W ⟨bb, 0, none⟩ (HT.out.bytes 0 (by have := HO.out.offs.strict (i := 0) (j := t.n) (by omega) (Nat.le_refl _); omega)))) (KAt.up (K4 K) k7 HL.out.2.2)
        have hs1 := sl_pos (t.y (t.off k))
        have hsuc := HO.out.offs.succ k (by omega)
        have hle := HO.out.offs.mono (i := k + 1) (j := k1) (by omega) (by omega)
        have hln := HO.out.offs.mono (i := k1) (j := t.n) (by omega) (Nat.le_refl _)
        have hbn := HO.out.bytes
        have hcb := hTw.capb
        have hcl := hTw.capl
        have c1 : wr.cell? ⟨bb, t.off k, none⟩ = some (.int .u8 (t.y (t.off k))) := hTw.bytes _ (by omega)
        have c2 : wr.cell? ⟨W.heap.size, 0, none⟩ = some (.func (.yield l) #[] #[]) := cell_of ((HKV.out.trans HKk.out).block _ _ HF4.out (HKN.out _ _ _ _ (Nat.le_refl _) (by decide)))
        obtain ⟨fn, tmps, assign, body, hyr, hR⟩ := HY.out _ k wr.drew (own_drew HJ.out HJk.out) (range_pre f k q (by omega) (by omega))
        dsimp only [cenc] at hyr
        obtain ⟨o, ho⟩ : ∃ o, o = t.off k := ⟨_, rfl⟩
        obtain ⟨s, hs⟩ : ∃ s, s = sl (t.y (t.off k)) := ⟨_, rfl⟩
        have HSL : Hid (s = sl (t.y (t.off k))) := hs
        obtain ⟨d, hd⟩ : ∃ d, t.off k1 = o + s + d := ⟨t.off k1 - o - s, by omega⟩
        obtain ⟨e, he⟩ : ∃ e, bcap = o + s + d + e := ⟨bcap - o - s - d, by omega⟩
        have E1 : t.off k1 - t.off k = s + d := by omega
        have E2 : bcap - t.off k = s + (d + e) := by omega
        have E3 : t.off (k + 1) - t.off k = s := by omega
        rw [E3, E2] at hyr
        rw [← ho] at hyr c1
        have hs1' : 0 < s := by omega
        have hsz : s + d ≤ 65536 := by omega
        have hse : s + (d + e) ≤ 1048576 := by omega
        have HO1 : Hid (o = t.off k) := ho
        have hE : t.off (k + 1) = o + s := by omega
        have HE : Hid (t.off (k + 1) = o + s) := hE
        have HE1 : Hid (t.off k1 = o + s + d) := hd
        have HE2 : Hid (bcap = o + s + d + e) := he
        rw [E1, E2, ← ho]
        have hyo : t.y (t.off k) = t.y o := by rw [ho]
        rw [hyo] at HSL
        have hseq2 := (seqLen_any (t.y o))
        rw [← HSL.out] at hseq2
        clear hE E1 E2 E3 hsuc hle hln hbn hcb hcl hTw hs1 hs ho hd he hyo hst
        gi_wp2_with (gi_at_call 11; refine (CallsIn.inRound l2 (callsIn_wide.2 (hseq2 _))).mono ?_; rintro e w' ⟨rfl, hw⟩; obtain rfl := hw.symm)
        have hsc : (s : Int) ≤ ((s + (d + e) : Nat) : Int) := by omega
        have hsc2 : s ≤ s + (d + e) := by omega
        have hs0 : (0 : Int) ≤ (s : Int) := by omega
        refine region_round (by kernel_rfl) (by rfl) ?_
        refine wpAnyIn_take (i := 1) (v := .slice (some ⟨bb, o, none⟩) (s + d) (s + (d + e))) rfl rfl (by kernel_rfl) (by kernel_rfl) (by kernel_rfl) (fun _ _ _ h => h) ⟨Or.inl ⟨by rfl, fun w => by go_simp⟩, fun _ => rfl⟩ ?_
        refine wpAnyIn_take (i := 2) (v := .int .i64 s) rfl rfl (by kernel_rfl) (by kernel_rfl) (by kernel_rfl) (fun _ _ _ h => h) ⟨Or.inl ⟨by rfl, fun w => by go_simp⟩, fun _ => rfl⟩ ?_
        refine wpAnyIn_take (i := 3) (v := .slice (some ⟨bb, o, none⟩) s (s + (d + e))) rfl rfl (by kernel_rfl) (by kernel_rfl) (by kernel_rfl) (fun _ _ _ h => h) ⟨Or.inl ⟨by rfl, fun w => by go_simp; intro h; omega⟩, fun _ => rfl⟩ ?_
        refine wpAnyIn_ready (rs := [0]) (by kernel_rfl) (by simp) ?_
        refine AllReadyIn.cons rfl (fun K9 hK9 => ?_) AllReadyIn.nil
        go_simp
        refine hK9 _ _ ?_
        clear hK9 K9
        refine wpAnyIn_ready (rs := [4]) (by kernel_rfl) (by simp) ?_
        refine AllReadyIn.cons rfl (fun K9 hK9 => ?_) AllReadyIn.nil
        go_simp
        refine hR.mono ?_
        rintro e9 W3 ⟨rfl, hj3, hk3, hf3⟩
        simp only
        refine hK9 _ _ ?_
        clear hK9 K9
        refine wpAnyIn_take (i := 5) (v := .bool false) rfl rfl (by kernel_rfl) (by kernel_rfl) (by kernel_rfl) (fun _ _ _ h => h) ⟨Or.inl ⟨by rfl, fun w => by go_simp⟩, fun _ => rfl⟩ ?_
        refine wpAnyIn_done (by kernel_rfl) ?_ _
        have HJ3 : Hid (J (List.range' f (k - f) ++ [k]) W3) := hj3
        have HK3 : Hid (Kept K V W3) := (HKk.out.drew).trans hk3
        have HF3 : Hid (KeepsFrom W4.heap.size V W3) := HFk.out.trans ⟨hf3.size, fun b o hb h1 h2 => hf3.same b o (by have := HB.out; omega) h1 h2⟩
        clear hj3 hk3 hf3 hR hyr c1 c2
        gi_wp2
        refine ⟨?_, by show d < s + d; omega⟩
        have hE := HE.out
        have hE1 := HE1.out
        have hE2 := HE2.out
        by_cases hend : k + 1 = k1
        · obtain rfl : d = 0 := by rw [hend] at hE; omega
          refine Or.inr ⟨_, _, rfl, ?_, HK3.out, HF3.out⟩
          · rw [← hend, ← range_snoc f k (by omega)]; exact HJ3.out
        · have hd : 0 < d := by
            have := HO.out.offs.strict (i := k + 1) (j := k1) (by omega) (by omega)
            omega
          refine Or.inl ⟨k + 1, ?_, by omega, by omega, ?_, HK3.out, HF3.out⟩
          · rw [if_neg (by omega), hE, hE1, hE2]
            have e1 : o + s + d - (o + s) = d := by omega
            have e2 : o + s + d + e - (o + s) = d + e := by omega
            rw [e1, e2]
          · rw [← range_snoc f k (by omega)]; exact HJ3.out
      · have HJk : Hid (J (List.range' f (k1 - f)) wr) := hj
        have HKk : Hid (Kept K V wr) := hkp
        have HFk : Hid (KeepsFrom W4.heap.size V wr) := hkf
        clear hj hkp hkf
        gi_wp2
        exact ⟨HFk.out, HKk.out, by rw [HG.out]; exact HJk.out, HKV.out.trans HKk.out⟩
  case done =>
    rintro V ⟨hj, hk⟩ hD
    have HJV : Hid (J (List.range' f (q - f)) V) := by
      by_cases h : f < q
      · rw [cover_end xs f q (HX1.out h)] at hj; exact hj
      · have e : q - f = 0 := by omega
        have e2 := HX2.out (by omega)
        rw [e2] at hj
        have e3 : endOf f [] - f = 0 := by unfold endOf; simp
        rw [e3] at hj; rw [e]; exact hj
    clear hj hk
    go_wp2
    refine ⟨by simp, .inl ⟨_, _, rfl, run_takeDeferred hD, ?_⟩⟩
    exact ⟨_, results_none rfl _ _ _, ⟨_, rfl⟩, HJ.out.putObj _ HJV.out (by have := HB.out; omega) hD rfl⟩
end Go.Proofs.YbulkdhcgDoor
