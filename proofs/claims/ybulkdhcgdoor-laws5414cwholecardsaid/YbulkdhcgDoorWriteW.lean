/-
  writeChars: the walk.
-/
import Derived.Test.YbulkdhcgDoorWrite
namespace Go.Proofs.YbulkdhcgDoor
open Go.RowKit
attribute [local go_sem] Oper.semAt_some wide_fn wide_depth wide_fn_in wide_depth_in

/-- what is held between two rounds: s is the heap's size at the call. -/
structure WI (K : Nat → Obj → Prop) (B b bd od s : Nat) (w w4 : World) (l : List UInt8) (n : Nat) (V : World) : Prop where
  bld : Bld B b l V
  b1 : V.heap[s]? = some (.cells #[.pointer (some ⟨b, 0, none⟩)] 99 (0, 0))
  b2 : V.heap[s + 1]? = some (.cells #[.pointer (some ⟨bd, od, none⟩)] 96 (0, 0))
  b3 : V.heap[s + 1 + 1]? = some (.cells #[.int .u32 (n : Nat)] 37 (0, 0))
  kp : Kept K w4 V
  bk : BKeep B b w V

theorem WI.own {K : Nat → Obj → Prop} {B b bd od s : Nat} {w w4 : World} (hw : w.heap.size ≤ w4.heap.size) (l : List Nat → List UInt8) (n : List Nat → Nat) : OwnFrom w4.heap.size (fun pre V => WI K B b bd od s w w4 (l pre) (n pre) V) := fun _ X Y row hs hg hr =>
  ⟨hs.bld.grown hg hr, heap_grown hs.b1 rfl hg hr, heap_grown hs.b2 rfl hg hr, heap_grown hs.b3 rfl hg hr, own_kept (β := Unit) (Nat.le_refl _) () X Y row hs.kp hg hr, bkeep_grown hs.bk hw hg hr⟩

theorem BKeep.others {B b : Nat} {V V' : World} (h : BKeep B b V V') (hb : ∃ o : Obj, V.heap[b]? = some o ∧ o.isCells = true) (C : Nat) : KeepsFrom C V V' := by
  have hk := h (fun k o => k ≠ b ∧ o.isCells = false) (fun o ho => ho.1 rfl) (fun g cur _ ho => by cases ho.2)
  refine ⟨hk.size, fun k o _ hk0 ho => hk.block k o hk0 ⟨fun e => ?_, ho⟩⟩
  subst e
  obtain ⟨o', h1, h2⟩ := hb
  rw [hk0] at h1; cases h1; rw [ho] at h2; cases h2
theorem Bld.cells {B b : Nat} {l : List UInt8} {w : World} (h : Bld B b l w) : ∃ o : Obj, w.heap[b]? = some o ∧ o.isCells = true := by
  obtain ⟨_, ⟨_, h⟩ | ⟨_, _, v, h, _⟩⟩ := h
  · exact ⟨_, h, rfl⟩
  · exact ⟨_, h, rfl⟩
theorem Kept.past {K : Nat → Obj → Prop} {w V : World} (h : Kept K w V) {p : Addr} (hp : w.heap.size ≤ p.block) (v : Value) : Kept K w (V.setCell p v) := by
  refine ⟨h.os, h.tape, h.output, ?_, fun k o hk hK => ?_⟩
  · show w.heap.size ≤ (V.heap.modify _ _).size
    rw [Array.size_modify]; exact h.size
  · exact (Below.heap_setCell V p v k (fun e => by have := (Array.getElem?_eq_some_iff.1 hk).1; omega)).trans (h.block k o hk hK)
theorem heap_setBox {V : World} {k : Nat} {u : Value} {T : TypeId} (h : V.heap[k]? = some (.cells #[u] T (0, 0))) (v : Value) : (V.setCell ⟨k, 0, none⟩ v).heap[k]? = some (.cells #[v] T (0, 0)) := by
  show (V.heap.modify k _)[k]? = _
  have hlt := (Array.getElem?_eq_some_iff.1 h).1
  rw [Array.getElem?_eq_getElem (by rw [Array.size_modify]; exact hlt), Array.getElem_modify_self, (Array.getElem?_eq_some_iff.1 h).2]
  rfl
theorem six_heap (W : World) (o1 o2 o3 o4 o5 o6 : Obj) : ∀ X, X = (((((W.alloc o1).alloc o2).alloc o3).alloc o4).alloc o5).alloc o6 → X.heap.size = W.heap.size + 6 ∧ X.heap[W.heap.size]? = some o1 ∧ X.heap[W.heap.size + 1]? = some o2 ∧ X.heap[W.heap.size + 1 + 1]? = some o3 ∧
    X.heap[W.heap.size + 1 + 1 + 1]? = some o4 ∧ X.heap[W.heap.size + 1 + 1 + 1 + 1]? = some o5 ∧ X.heap[W.heap.size + 1 + 1 + 1 + 1 + 1]? = some o6 := by
  intro X hX
  obtain ⟨h1, h2, h3, h4⟩ := four_heap W o1 o2 o3 o4
  have h5 := World.alloc_heap_new ((((W.alloc o1).alloc o2).alloc o3).alloc o4) o5
  have h6 := World.alloc_heap_new (((((W.alloc o1).alloc o2).alloc o3).alloc o4).alloc o5) o6
  simp only [World.size_alloc] at h5 h6
  have up : ∀ k o, k < W.heap.size + 4 → ((((W.alloc o1).alloc o2).alloc o3).alloc o4).heap[k]? = some o → X.heap[k]? = some o := fun k o hk h => by
    rw [hX, Below.heap_alloc _ _ _ (by simp; omega), Below.heap_alloc _ _ _ (by simp; omega)]; exact h
  refine ⟨by rw [hX]; simp, up _ _ (by omega) h1, up _ _ (by omega) h2, up _ _ (by omega) h3, up _ _ (by omega) h4, ?_, by rw [hX]; exact h6⟩
  rw [hX, Below.heap_alloc _ _ _ (by simp)]; exact h5
theorem kept_six (K : Nat → Obj → Prop) (W : World) (o1 o2 o3 o4 o5 o6 : Obj) : Kept K W ((((((W.alloc o1).alloc o2).alloc o3).alloc o4).alloc o5).alloc o6) :=
  (((((Kept.alloc K _ _).trans (Kept.alloc K _ _)).trans (Kept.alloc K _ _)).trans (Kept.alloc K _ _)).trans (Kept.alloc K _ _)).trans (Kept.alloc K _ _)

theorem WI.box3 {K : Nat → Obj → Prop} {B b bd od s : Nat} {w w6 : World} {l0 : List UInt8} {k : Nat} {V V2 : World} (h : WI K B b bd od s w w6 l0 k V) (hk2 : BKeep B b V V2) (hbs : b < s) : V2.heap[s + 1 + 1]? = some (.cells #[.int .u32 (k : Nat)] 37 (0, 0)) :=
  (hk2 (fun k o => k ≠ b ∧ ∃ cs T fr, o = .cells cs T fr ∧ T ≠ 5) (fun o ho => ho.1 rfl) (fun g cur _ ho => by obtain ⟨_, cs, T, fr, e, hT⟩ := ho; cases e; exact hT rfl)).block _ _ h.b3 ⟨by omega, _, _, _, rfl, by decide⟩
theorem chb_len {t : Mk} (h : t.Ok) {k : Nat} (hk : k < t.n) : (chb t k).length ≤ 4 ∧ 1 ≤ (chb t k).length := by
  unfold chb
  rw [List.length_map, List.length_range, h.offs.succ k hk]
  have := sl_le (t.y (t.off k))
  have := sl_pos (t.y (t.off k))
  omega
theorem outOf_len {t : Mk} (h : t.Ok) (S : Nat → Bool) : ∀ ks : List Nat, (∀ k ∈ ks, k < t.n) → (outOf t S ks).length ≤ 4 * ks.length
  | [], _ => by rw [outOf_nil]; simp
  | k :: ks, hk => by
    have h1 := outOf_len h S ks (fun j hj => hk j (List.mem_cons_of_mem _ hj))
    have h2 := (chb_len h (hk k (List.mem_cons_self ..))).1
    have e : outOf t S (k :: ks) = (if S k then [] else chb t k) ++ outOf t S ks := by
      unfold outOf
      cases hs : S k <;> simp [hs]
    rw [e, List.length_append, List.length_cons]
    split
    · simp; omega
    · omega
/-- a round's end. -/
theorem WI.step {K : Nat → Obj → Prop} {B b bd od s : Nat} {w w6 : World} {l0 l1 : List UInt8} {k : Nat} {V V2 : World} (h : WI K B b bd od s w w6 l0 k V) (hs : s = w.heap.size) (hw6 : w6.heap.size = s + 6) (hk2 : BKeep B b V V2) (hb2 : Bld B b l1 V2)
    (hKb : ∀ o, ¬ K b o) (hK5 : ∀ g cur, B ≤ g → ¬ K g (.cells cur 5 (0, 0))) (hKM : ∀ k o, B ≤ k → k < w.heap.size + 6 → ¬ K k o) (hBs : B ≤ s) (hbs : b < s) :
    KeepsFrom w6.heap.size V (V2.setCell ⟨s + 1 + 1, 0, none⟩ (.int .u32 ((k + 1 : Nat) : Int))) ∧ Kept K V (V2.setCell ⟨s + 1 + 1, 0, none⟩ (.int .u32 ((k + 1 : Nat) : Int))) ∧
      WI K B b bd od s w w6 l1 (k + 1) (V2.setCell ⟨s + 1 + 1, 0, none⟩ (.int .u32 ((k + 1 : Nat) : Int))) := by
  have kx := hk2 (fun k o => k ≠ b ∧ ∃ cs T fr, o = .cells cs T fr ∧ T ≠ 5) (fun o ho => ho.1 rfl) (fun g cur _ ho => by obtain ⟨_, cs, T, fr, e, hT⟩ := ho; cases e; exact hT rfl)
  have h1 := kx.block _ _ h.b1 ⟨by omega, _, _, _, rfl, by decide⟩
  have h2 := kx.block _ _ h.b2 ⟨by omega, _, _, _, rfl, by decide⟩
  have h3 := kx.block _ _ h.b3 ⟨by omega, _, _, _, rfl, by decide⟩
  have ne : ∀ k, k ≠ s + 1 + 1 → (V2.setCell ⟨s + 1 + 1, 0, none⟩ (.int .u32 ((k + 1 : Nat) : Int))).heap[k]? = V2.heap[k]? := fun k hk => Below.heap_setCell V2 ⟨s + 1 + 1, 0, none⟩ _ k hk
  have nx : ∀ j v, j ≠ s + 1 + 1 → (V2.setCell ⟨s + 1 + 1, 0, none⟩ v).heap[j]? = V2.heap[j]? := fun j v hj => Below.heap_setCell V2 ⟨s + 1 + 1, 0, none⟩ v j hj
  refine ⟨(hk2.others h.bld.cells _).trans ((KeepsOthers.setCell _ _ _).from _), (hk2 K hKb hK5).trans (Kept.setCell V2 _ _ (fun o _ => hKM _ o (by show B ≤ s + 1 + 1; omega) (by show s + 1 + 1 < _; omega))), ?_⟩
  refine ⟨hb2.keep (fun o ho => (nx b _ (by omega)).trans ho) (fun g cur hg hgc => ?_), (nx _ _ (by omega)).trans h1, (nx _ _ (by omega)).trans h2, heap_setBox h3 _, (h.kp.trans (hk2 K hKb hK5)).trans (Kept.setCell V2 _ _ (fun o _ => hKM _ o (by show B ≤ s + 1 + 1; omega) (by show s + 1 + 1 < _; omega))), fun K' a1 a2 => ((h.bk K' a1 a2).trans (hk2 K' a1 a2)).past (by show w.heap.size ≤ s + 1 + 1; omega) _⟩
  refine (nx g _ (fun e => ?_)).trans hgc
  subst e
  rw [h3] at hgc; cases hgc

set_option maxRecDepth 100000 in
set_option maxHeartbeats 4000000 in
theorem writeChars_any (B b bt bA nA capA a bp bb bcap bm mcap bd od f q : Nat) (t : Mk) (ht : t.Ok) (S : Nat → Bool) (l : List UInt8) (w : World)
    (cA : w.cell? ⟨bt, 12, none⟩ = some (.slice (some ⟨bA, 0, none⟩) nA capA)) (ha : a < nA) (hT : TextAt w bA (a * 9 + 2) bp bb bcap bm mcap t) (hS : SetAt w B bd od S) (hl : Bld B b l w) (hq : q ≤ t.n)
    (l1 : bt < B) (l2 : bA < B) (l3 : bp < B) (l4 : bb < B) (l5 : bm < B) (hBw : B ≤ w.heap.size) (hy : ∀ j, 0 ≤ t.y j ∧ t.y j ≤ 255) (hll : l.length ≤ 1099511627776) (hf : f ≤ 65536) :
    Calls Ybad.prog 16 #[.pointer (some ⟨bt, 0, none⟩), .pointer (some ⟨b, 0, none⟩), .int .u32 a, .int .u32 f, .int .u32 q, .pointer (some ⟨bd, od, none⟩)] w fun e w' => (∃ v, e = .returned v) ∧ Bld B b (l ++ outOf t S (List.range' f (q - f))) w' ∧ BKeep B b w w' := by
  have HT : Hid (TextAt w bA (a * 9 + 2) bp bb bcap bm mcap t) := hT
  have HS : Hid (SetAt w B bd od S) := hS
  have HL : Hid (Bld B b l w) := hl
  have HO : Hid t.Ok := ht
  have HY : Hid (∀ j, 0 ≤ t.y j ∧ t.y j ≤ 255) := hy
  have x1 : bt < w.heap.size := by omega
  have x2 : bt < w.heap.size + 1 := by omega
  have x3 : (a : Int) < (nA : Int) := by omega
  clear hT hS hl ht hy
  refine (callsIn_wide (n := 0)).1 ?_
  refine callsIn_of_wp_marks Ybad.func16 rfl trivial ?_
  simp only [Ybad.ntmps16, List.size_toArray, List.length_cons, List.length_nil, Nat.reduceAdd, Nat.reduceSub, Array.replicate_succ, Array.replicate_zero, List.push_toArray, List.append_toArray, List.nil_append, List.cons_append]
  refine wpIn_wide.2 ?_
  go_wp2_with (go_at_call 23; refine (chars_call _ _ _ _).mono ?_; rintro e w' ⟨rfl, hw⟩; subst hw)
  obtain ⟨w6, hw6⟩ : ∃ w6, w6 = (((((w.alloc (.cells #[.pointer (some ⟨b, 0, none⟩)] 99)).alloc (.cells #[.pointer (some ⟨bd, od, none⟩)] 96)).alloc (.cells #[.int .u32 (f : Nat)] 37)).alloc (.cells #[.pointer (some ⟨bA, a * 9 + 2, none⟩)] 87)).alloc (.cells #[.int .u32 (f : Nat)] 37)).alloc (.cells #[.int .u32 (q : Nat)] 37) := ⟨_, rfl⟩
  obtain ⟨S6, F1, F2, F3, F4, F5, F6⟩ := six_heap w _ _ _ _ _ _ w6 hw6
  have K6 : ∀ K', Kept K' w w6 := fun K' => by rw [hw6]; exact kept_six K' w _ _ _ _ _ _
  have hbw : b < w.heap.size := HL.out.lt
  have hBb : B ≤ b := HL.out.1
  have HL6 : Hid (Bld B b l w6) := HL.out.keep (fun o ho => (K6 (fun _ _ => True)).block b o ho trivial) (fun g cur _ hg => (K6 (fun _ _ => True)).block g _ hg trivial)
  obtain ⟨K, hK⟩ : ∃ K : Nat → Obj → Prop, K = fun k o => k < B ∨ (w.heap.size + 6 ≤ k ∧ ∃ cs T fr, o = .cells cs T fr ∧ T ≠ 5) := ⟨_, rfl⟩
  have kB : ∀ k o, k < B → K k o := fun k o h => by rw [hK]; exact Or.inl h
  have kN : ∀ k cs T fr, w.heap.size + 6 ≤ k → T ≠ 5 → K k (.cells cs T fr) := fun k cs T fr h hT => by rw [hK]; exact Or.inr ⟨h, cs, T, fr, rfl, hT⟩
  have kC : ∀ (k : Nat) (o : Obj), w.heap.size + 6 ≤ k → K k o → o.isCells = true := fun k o h hk => by
    rw [hK] at hk
    rcases hk with hk | ⟨_, cs, T, fr, rfl, _⟩
    · omega
    · rfl
  have kM : ∀ k o, B ≤ k → k < w.heap.size + 6 → ¬ K k o := fun k o h1 h2 hk => by
    rw [hK] at hk
    rcases hk with hk | ⟨h3, _⟩ <;> omega
  have k5 : ∀ g cur, B ≤ g → ¬ K g (.cells cur 5 (0, 0)) := fun g cur hg hk => by
    rw [hK] at hk
    rcases hk with hk | ⟨_, cs, T, fr, e, hT⟩
    · omega
    · cases e; exact hT rfl
  have kb : ∀ o, ¬ K b o := fun o => kM b o hBb (by omega)
  have HKb : Hid (∀ o, ¬ K b o) := kb
  have HK5 : Hid (∀ g cur, B ≤ g → ¬ K g (.cells cur 5 (0, 0))) := k5
  have HKC : Hid (∀ (k : Nat) (o : Obj), w.heap.size + 6 ≤ k → K k o → o.isCells = true) := kC
  have HKM : Hid (∀ k o, B ≤ k → k < w.heap.size + 6 → ¬ K k o) := kM
  have hseq : ∀ r : Loop, SeqG Ybad.prog 29 #[.pointer (some ⟨w.heap.size + 1 + 1 + 1, 0, none⟩), .pointer (some ⟨w.heap.size + 1 + 1 + 1 + 1, 0, none⟩), .pointer (some ⟨w.heap.size + 1 + 1 + 1 + 1 + 1, 0, none⟩)] (cenc t bb bcap) K (List.range' f (q - f)) (w6.heap.size + 1) (w6.heap.size + 1 + 1) ((w6.alloc (.deferred (some []))).alloc (.loop r)) := fun r => by
    have K8 : ∀ K', Kept K' w6 ((w6.alloc (.deferred (some []))).alloc (.loop r)) := fun K' => (Kept.alloc K' _ _).trans (Kept.alloc K' _ _)
    have hsz : ((w6.alloc (.deferred (some []))).alloc (.loop r)).heap.size = w.heap.size + 8 := by simp [S6]
    exact chars_iter bA (a * 9 + 2) bp bb bcap bm mcap t HO.out _ _ _ f q K _ (HT.out.kept (((K6 K).trans (K8 K))) (fun o _ => kB _ o l2) (fun o _ => kB _ o l3) (fun o _ => kB _ o l4) (fun o _ => kB _ o l5))
      ⟨(K8 (fun _ _ => True)).cell (fun _ _ => trivial) (cell_of F5), (K8 (fun _ _ => True)).cell (fun _ _ => trivial) (cell_of F6), (K8 (fun _ _ => True)).cell (fun _ _ => trivial) (cell_of F4)⟩
      (fun o _ => kB _ o l2) (fun o _ => kB _ o l3) (fun o _ => kB _ o l4) (fun o _ => kB _ o l5) (fun k cs T fr hk hT => kN k cs T fr (by rw [hsz] at hk; omega) hT) (fun k o hk h => kC k o (by rw [hsz] at hk; omega) h) hq _ _ (by rw [hsz, S6]; omega)
  rw [← hw6]
  have HWI : Hid (WI K B b bd od w.heap.size w w6 (l ++ outOf t S []) (f + ([] : List Nat).length) w6) := ⟨by rw [outOf_nil, List.append_nil]; exact HL6.out, F1, F2, F3, Kept.refl _ _, fun K' _ _ => K6 K'⟩
  clear cA x1 x2 x3 F1 F2 F3 F4 F5 F6 hw6 kB kN kC kM k5 kb hK HL6
  refine (wpIn_wide (n := 0)).1 (range_law (P := Ybad.prog) (gf := 29) (encs := cenc t bb bcap) (K := K) (xs := List.range' f (q - f)) rfl (Go.Proofs.enters_of Ybad.func29 (by kernel_rfl) rfl) hseq ?hK (fun _ => rfl)
    (fun pre V => WI K B b bd od w.heap.size w w6 (l ++ outOf t S pre) (f + pre.length) V) (WI.own (by omega) _ _) HWI.out
    (fun x => { tmps := #[.pointer (some ⟨bt, 0, none⟩), .pointer (some ⟨b, 0, none⟩), .int .u32 (a : Nat), .int .u32 (f : Nat), .int .u32 (q : Nat), .pointer (some ⟨bd, od, none⟩), undef, .pointer (some ⟨w.heap.size, 0, none⟩), undef, undef, undef, .pointer (some ⟨w.heap.size + 1, 0, none⟩), .pointer (some ⟨bA, a * 9 + 2, none⟩), undef, .pointer (some ⟨w.heap.size + 1 + 1, 0, none⟩), .slice (some ⟨bb, t.off x, none⟩) (t.off (x + 1) - t.off x) (bcap - t.off x), .pointer (some ⟨bt, 0, none⟩), .pointer (some ⟨bt, 0, none⟩), .pointer (some ⟨bt, 12, none⟩), .slice (some ⟨bA, 0, none⟩) nA capA, .int .u32 (a : Nat), .pointer (some ⟨bA, a * 9, none⟩), .pointer (some ⟨bA, a * 9 + 2, none⟩), .pointer (some ⟨bd, od, none⟩), .bool false, undef, undef, undef, undef, undef, undef, undef, undef, undef, .int .u32 (f : Nat), .pointer (some ⟨bA, a * 9 + 2, none⟩), .int .u32 (f : Nat), .int .u32 (q : Nat), .func (.func 29) #[] #[.pointer (some ⟨w.heap.size + 1 + 1 + 1, 0, none⟩), .pointer (some ⟨w.heap.size + 1 + 1 + 1 + 1, 0, none⟩), .pointer (some ⟨w.heap.size + 1 + 1 + 1 + 1 + 1, 0, none⟩)], .slice (some ⟨bb, t.off x, none⟩) (t.off (x + 1) - t.off x) (bcap - t.off x), undef, undef, undef, undef, undef, undef, undef, undef, undef], defers := [] }) ?assign ?body ?done)
  case hK => exact fun k o hk h => HKC.out k o (by rw [S6] at hk; exact hk) h
  case assign =>
    intro l2 x V K3 hK3
    unfold cenc
    gi_wp2
    exact hK3
  case body =>
    rintro lp pre x V _ hI hpre
    obtain ⟨rfl, hlen, hpre2⟩ := pre_index hpre
    obtain ⟨k, hk⟩ : ∃ k, k = f + pre.length := ⟨_, rfl⟩
    have HI : Hid (WI K B b bd od w.heap.size w w6 (l ++ outOf t S pre) k V) := by rw [hk]; exact hI
    have hkq : k < q := by omega
    have hkV : Kept (fun k _ => k < B) w V := hI.bk _ (fun _ h => by omega) (fun g _ hg h => by omega)
    have HSV : Hid (SetAt V B bd od S) := HS.out.kept hkV (fun _ _ h => h)
    have HTV : Hid (TextAt V bA (a * 9 + 2) bp bb bcap bm mcap t) := HT.out.kept hkV (fun _ _ => l2) (fun _ _ => l3) (fun _ _ => l4) (fun _ _ => l5)
    have c1 : V.cell? ⟨w.heap.size, 0, none⟩ = some (.pointer (some ⟨b, 0, none⟩)) := cell_of hI.b1
    have c2 : V.cell? ⟨w.heap.size + 1, 0, none⟩ = some (.pointer (some ⟨bd, od, none⟩)) := cell_of hI.b2
    have c3 : V.cell? ⟨w.heap.size + 1 + 1, 0, none⟩ = some (.int .u32 (k : Nat)) := by rw [hk]; exact cell_of hI.b3
    have f3 : V.frozen? ⟨w.heap.size + 1 + 1, 0, none⟩ = false := Lib.frozen_of_heap hI.b3 0
    have HLp : Hid ((l ++ outOf t S (pre ++ [k])) = (l ++ outOf t S pre) ++ (if S k then [] else chb t k)) := by rw [outOf_snoc, ← List.append_assoc]; trivial
    have hlen2 : f + (pre ++ [k]).length = k + 1 := by simp; omega
    rw [← hk]
    have hk32 : k < 4294967296 := by have := HO.out.small; omega
    have hks : k ≤ 16384 := by have := HO.out.small; omega
    have HLEN : Hid (f + (pre ++ [k]).length = k + 1) := hlen2
    have HOL : Hid ((outOf t S pre).length ≤ 65536) := by
      have h1 := outOf_len HO.out S pre (fun j hj => by rw [hpre2] at hj; have := List.mem_range'_1.1 hj; omega)
      have := HO.out.small
      have h2 : (outOf t S pre).length ≤ 65536 := by omega
      exact h2
    clear hpre hpre2 hI hlen hlen2 hk hkV
    cases hsk : S k
    · have hhas := has_any B bd od S k hk32 V HSV.out
      rw [hsk] at hhas
      have HSK : Hid (S k = false) := hsk
      have hso := HO.out.offs.succ k (by omega)
      have hsl := sl_le (t.y (t.off k))
      have hsp := sl_pos (t.y (t.off k))
      have hole := HO.out.offs.mono (i := k + 1) (j := t.n) (by omega) (Nat.le_refl _)
      have hwr := write_any B b (Lib.byteCells (l ++ outOf t S pre)) ⟨bb, t.off k, none⟩ (t.off (k + 1) - t.off k) (bcap - t.off k) (Lib.byteCells (chb t k)) V HI.out.bld.is
        (by rw [Lib.byteCells_length]; unfold chb; simp)
        (fun j u hj => by
          have hjl : j < t.off (k + 1) - t.off k := by
            have := (List.getElem?_eq_some_iff.1 hj).1
            rw [Lib.byteCells_length] at this; unfold chb at this; simpa using this
          have e : u = .int .u8 (t.y (t.off k + j)) := by
            unfold Lib.byteCells chb at hj
            rw [List.map_map, List.getElem?_map, List.getElem?_range hjl] at hj
            have := Option.some.inj hj
            rw [← this]
            show Value.int .u8 _ = _
            rw [u8_toNat (HY.out _).1 (HY.out _).2]
          rw [e, Addr.add_mid]
          exact HTV.out.bytes _ (by omega))
        l4 (fun u hu => by unfold Lib.byteCells at hu; obtain ⟨x, _, rfl⟩ := List.mem_map.1 hu; rfl)
        (by rw [Lib.byteCells_length, List.length_append]; have := HOL.out; omega) (by have := (HI.out.bk (fun _ _ => False) (fun _ h => h) (fun _ _ _ h => h)).size; omega)
      clear hso hsl hsp hole
      gi_wp2_with (first
        | (gi_at_call 24; refine (CallsIn.inRound lp (callsIn_wide.2 hhas)).mono ?_; rintro e w' ⟨rfl, hw⟩; obtain rfl := hw.symm)
        | (gi_at_call 22; refine (CallsIn.inRound lp (callsIn_wide.2 hwr)).mono ?_; rintro e V2 ⟨⟨v, rfl⟩, hb2, hk2⟩; have h3 := HI.out.box3 hk2 hbw; have c4 := cell_of h3; have f4 := Lib.frozen_of_heap h3 0))
      have hbl : Bld B b (l ++ outOf t S (pre ++ [k])) V2 := by
        rw [HLp.out, HSK.out, if_neg (by simp)]
        refine ⟨hBb, Or.inr ⟨fun e => ?_, ?_⟩⟩
        · have h1 := (chb_len HO.out (k := k) (by omega)).2
          have h2 := congrArg List.length e
          rw [List.length_append, List.length_nil] at h2; omega
        · have e : Lib.byteCells ((l ++ outOf t S pre) ++ chb t k) = Lib.byteCells (l ++ outOf t S pre) ++ Lib.byteCells (chb t k) := by unfold Lib.byteCells; rw [List.map_append]
          rw [e]; exact hb2
      have hst := HI.out.step rfl S6 hk2 hbl HKb.out HK5.out HKM.out hBw hbw
      have e : ((k + 1 : Nat) : Int) = (k : Int) + 1 := by omega
      rw [e] at hst
      refine ⟨hst.1, hst.2.1, ?_⟩
      show WI K B b bd od w.heap.size w w6 (l ++ outOf t S (pre ++ [k])) (f + (pre ++ [k]).length) _
      rw [HLEN.out]; exact hst.2.2
    · have hhas := has_any B bd od S k hk32 V HSV.out
      rw [hsk] at hhas
      have HSK : Hid (S k = true) := hsk
      gi_wp2_with (gi_at_call 24; refine (CallsIn.inRound lp (callsIn_wide.2 hhas)).mono ?_; rintro e w' ⟨rfl, hw⟩; obtain rfl := hw.symm)
      have hst := HI.out.step rfl S6 (BKeep.refl _ _ V) (l1 := l ++ outOf t S (pre ++ [k])) (by rw [HLp.out, HSK.out, if_pos rfl, List.append_nil]; exact HI.out.bld) HKb.out HK5.out HKM.out hBw hbw
      have e : ((k + 1 : Nat) : Int) = (k : Int) + 1 := by omega
      rw [e] at hst
      refine ⟨hst.1, hst.2.1, ?_⟩
      show WI K B b bd od w.heap.size w w6 (l ++ outOf t S (pre ++ [k])) (f + (pre ++ [k]).length) _
      rw [HLEN.out]; exact hst.2.2
  case done =>
    rintro V hI hD
    have HI : Hid (Bld B b (l ++ outOf t S (List.range' f (q - f))) V ∧ BKeep B b w V) := ⟨hI.bld, hI.bk⟩
    clear hI
    go_wp2
    refine ⟨by simp, .inl ⟨_, _, rfl, run_takeDeferred hD, ?_⟩⟩
    refine ⟨_, results_none rfl _ _ _, ⟨_, rfl⟩, HI.out.1.grown (C := w6.heap.size) (grownBy_putObj' V _ _) (fun r e => by cases e; exact ⟨Nat.le_refl _, _, hD, rfl⟩), bkeep_grown HI.out.2 (C := w6.heap.size) (by omega) (grownBy_putObj' V _ _) (fun r e => by cases e; exact ⟨Nat.le_refl _, _, hD, rfl⟩)⟩
end Go.Proofs.YbulkdhcgDoor
