/-
  chunked.push: one chunk.
-/
import Derived.Test.YbulkdhcgDoorAddT
import Derived.Deep.RegionHeld3
namespace Go.Proofs.YbulkdhcgDoor
open Go.RowKit

/-- what a call leaves; U: the blocks that may be written. -/
structure XFr (w W : World) (U : Nat → Prop) : Prop where
  os : W.os = w.os
  tape : W.tape = w.tape
  output : W.output = w.output
  size : w.heap.size ≤ W.heap.size
  blk : ∀ k, k < w.heap.size → ¬ U k → W.heap[k]? = w.heap[k]?
theorem XFr.refl (w : World) (U : Nat → Prop) : XFr w w U := ⟨rfl, rfl, rfl, Nat.le_refl _, fun _ _ _ => rfl⟩
theorem XFr.grown {w W W' : World} {U : Nat → Prop} {row : Option Nat} (h : XFr w W U) (hg : W.grownBy W' row) (hr : ∀ r, row = some r → U r ∨ w.heap.size ≤ r) : XFr w W' U :=
  ⟨hg.os.trans h.os, hg.tape.trans h.tape, hg.output.trans h.output, Nat.le_trans h.size hg.size, fun k hk h2 => (hg.block k (Nat.lt_of_lt_of_le hk h.size) (fun e => by
    rcases hr k e.symm with h3 | h3
    · exact h2 h3
    · omega)).trans (h.blk k hk h2)⟩
theorem XFr.trans {w W W' : World} {U V : Nat → Prop} (h : XFr w W U) (k : XFr W W' V) (hv : ∀ g, V g → U g ∨ w.heap.size ≤ g) : XFr w W' U :=
  ⟨k.os.trans h.os, k.tape.trans h.tape, k.output.trans h.output, Nat.le_trans h.size k.size, fun q hq h2 => (k.blk q (Nat.lt_of_lt_of_le hq h.size) (fun e => (hv q e).elim h2 (fun e => by omega))).trans (h.blk q hq h2)⟩
theorem grown_set (W : World) (b j : Nat) (u : Value) : W.grownBy (W.setCell ⟨b, j, none⟩ u) (some b) :=
  ⟨rfl, rfl, rfl, by show W.heap.size ≤ (W.heap.modify _ _).size; rw [Array.size_modify]; exact Nat.le_refl _, fun k _ hkne => Below.heap_setCell W ⟨b, j, none⟩ u k (fun e => hkne (by rw [e]))⟩
theorem XFr.alloc {w W : World} {U : Nat → Prop} (h : XFr w W U) (o : Obj) : XFr w (W.alloc o) U := h.grown (World.grownBy_alloc W o none) (fun r e => by cases e)
theorem XFr.set {w W : World} {U : Nat → Prop} (h : XFr w W U) (b j : Nat) (u : Value) (hb : U b ∨ w.heap.size ≤ b) : XFr w (W.setCell ⟨b, j, none⟩ u) U := h.grown (grown_set W b j u) (fun r e => by cases e; exact hb)
theorem XFr.cell {w W : World} {U : Nat → Prop} (h : XFr w W U) {b : Nat} (j : Nat) (hb : b < w.heap.size) (hu : ¬ U b) : W.cell? ⟨b, j, none⟩ = w.cell? ⟨b, j, none⟩ := World.cell?_of_block (h.blk b hb hu)
theorem XFr.frozen {w W : World} {U : Nat → Prop} (h : XFr w W U) {b : Nat} (j : Nat) (hb : b < w.heap.size) (hu : ¬ U b) : W.frozen? ⟨b, j, none⟩ = w.frozen? ⟨b, j, none⟩ := World.frozen?_of_block (h.blk b hb hu)

theorem info95 : (Ybad.prog.info? 95).map (fun i => (i.zero, i.size, i.bytes)) = some (some (.slice none 0 0), 1, 24) := by kernel_rfl
/-- a run's cells. -/
def r18 (a b c : Value) : List Value := [a, b, c, .int .u32 0, .int .u32 0, .int .u32 0, .int .u8 0, .bool false, .int .u8 0, .int .u32 0, .int .u32 0, .int .u32 0, .int .u32 0, .int .u32 0, .int .u32 0, .int .u32 0, .int .u32 0, .int .u32 0]
theorem info68 : (Ybad.prog.info? 68).map (fun i => (i.zero, i.size, i.bytes)) = some (some (.agg (r18 (.int .u32 0) (.int .u32 0) (.int .u32 0)).toArray), 18, 64) := by kernel_rfl

/-- the runs in memory: one chunk. -/
structure RunsAt (w : World) (C bt bc c0 g cap n : Nat) (xs : List Value) : Prop where
  c1 : w.cell? ⟨bt, 0, none⟩ = some (.slice (some ⟨bc, 0, none⟩) 1 c0)
  c2 : w.cell? ⟨bc, 0, none⟩ = some (.slice (some ⟨g, 0, none⟩) n cap)
  f2 : w.frozen? ⟨bc, 0, none⟩ = false
  own : w.ownsRow C 68 18 (.slice (some ⟨g, 0, none⟩) n cap) n xs
  ne : g ≠ bc
  lt : bc < w.heap.size
  ge : C ≤ bc
  bt : bt < C
  sz : C ≤ w.heap.size

theorem RunsAt.alloc {w : World} {C bt bc c0 g cap n : Nat} {xs : List Value} (h : RunsAt w C bt bc c0 g cap n xs) (o : Obj) : RunsAt (w.alloc o) C bt bc c0 g cap n xs :=
  ⟨(World.cell?_of_block (w := w) (Below.heap_alloc w o bt (by have := h.bt; have := h.sz; omega))).trans h.c1, (World.cell?_of_block (w := w) (Below.heap_alloc w o bc h.lt)).trans h.c2, (World.frozen?_of_block (w := w) (Below.heap_alloc w o bc h.lt)).trans h.f2, h.own.alloc o, h.ne, by rw [World.size_alloc]; have := h.lt; omega, h.ge, h.bt, by rw [World.size_alloc]; have := h.sz; omega⟩

theorem range_new (w : World) (cs : List Value) (T : TypeId) : (w.alloc (.cells cs.toArray T)).rangeAt w.heap.size 0 cs := fun j v hv => by
  rw [World.cell?_alloc_at _ _ _ _ rfl, Nat.zero_add]
  simpa using hv

theorem list18 (cs : List Value) (h : cs.length = 18) : ∃ x0 x1 x2 x3 x4 x5 x6 x7 x8 x9 x10 x11 x12 x13 x14 x15 x16 x17, cs = [x0, x1, x2, x3, x4, x5, x6, x7, x8, x9, x10, x11, x12, x13, x14, x15, x16, x17] := by
  match cs, h with
  | [x0, x1, x2, x3, x4, x5, x6, x7, x8, x9, x10, x11, x12, x13, x14, x15, x16, x17], _ => exact ⟨x0, x1, x2, x3, x4, x5, x6, x7, x8, x9, x10, x11, x12, x13, x14, x15, x16, x17, rfl⟩

/-- what push leaves. -/
def PushPost (w : World) (C bt bc c0 n : Nat) (xs : List Value) (U : Nat → Prop) (w' : World) : Prop :=
  ∃ g cap, RunsAt w' C bt bc c0 g cap n xs ∧ XFr w w' U

theorem push_done {w W W1 : World} {C bt bc c0 g cap n g' cap' : Nat} {xs ys : List Value} {o : Obj} (h : RunsAt W C bt bc c0 g cap n xs) (hx : XFr w W (fun k => k = bc ∨ k = g)) 
    (hown : W1.ownsRow C 68 18 (.slice (some ⟨g', 0, none⟩) (n + 1) cap') (n + 1) ys) (hg : (W.alloc o).grownBy W1 (some g)) (hat : some g = some g' ∨ g' = W.heap.size + 1) :
    PushPost w C bt bc c0 (n + 1) ys (fun k => k = bc ∨ k = g) (W1.setCell ⟨bc, 0, none⟩ (.slice (some ⟨g', 0, none⟩) (n + 1) cap')) := by
  have hne : g' ≠ bc := by
    rcases hat with e | e
    · have : g = g' := Option.some.inj e
      have := h.ne
      omega
    · have := h.lt; omega
  have hbc : W1.heap[bc]? = W.heap[bc]? := (hg.block bc (by rw [World.size_alloc]; have := h.lt; omega) (fun e => h.ne (Option.some.inj e).symm)).trans (Below.heap_alloc W o bc h.lt)
  have hbt : W1.heap[bt]? = W.heap[bt]? := (hg.block bt (by rw [World.size_alloc]; have := h.bt; have := h.sz; omega) (fun e => by have e2 := Option.some.inj e; have := (h.own.lt g rfl).1; have := h.bt; omega)).trans (Below.heap_alloc W o bt (by have := h.bt; have := h.sz; omega))
  have hlt1 : bc < W1.heap.size := by have := hg.size; rw [World.size_alloc] at this; have := h.lt; omega
  have hbtc : bt ≠ bc := by have := h.bt; have := h.ge; omega
  refine ⟨g', cap', ⟨?_, ?_, ?_, ?_, hne, ?_, h.ge, h.bt, ?_⟩, ?_⟩
  · rw [World.cell?_setCell_other _ _ _ _ (fun e => by cases e; exact hbtc rfl)]; exact (World.cell?_of_block (w := W) hbt).trans h.c1
  · exact World.cell?_setCell_same _ _ _ ((World.cell?_of_block (w := W) hbc).trans h.c2)
  · rw [World.frozen?_setCell]; exact (World.frozen?_of_block (w := W) hbc).trans h.f2
  · exact hown.kept (grown_set W1 bc 0 _) (Or.inr (fun e => hne (Option.some.inj e)))
  · show bc < (W1.heap.modify _ _).size; rw [Array.size_modify]; exact hlt1
  · show C ≤ (W1.heap.modify _ _).size; rw [Array.size_modify]; have := hg.size; rw [World.size_alloc] at this; have := h.sz; omega
  · exact ((hx.alloc o).grown hg (fun r e => Or.inl (Or.inr (Option.some.inj e).symm))).set bc 0 _ (Or.inl (Or.inl rfl))

theorem push_keep {W W1 : World} {C bt bc c0 g cap n : Nat} {xs : List Value} {o : Obj} (h : RunsAt W C bt bc c0 g cap n xs) (hg : (W.alloc o).grownBy W1 (some g)) : W1.heap[bc]? = W.heap[bc]? ∧ W1.heap[bt]? = W.heap[bt]? :=
  ⟨(hg.block bc (by rw [World.size_alloc]; have := h.lt; omega) (fun e => h.ne (Option.some.inj e).symm)).trans (Below.heap_alloc W o bc h.lt),
    (hg.block bt (by rw [World.size_alloc]; have := h.bt; have := h.sz; omega) (fun e => by have e2 := Option.some.inj e; have := (h.own.lt g rfl).1; have := h.bt; omega)).trans (Below.heap_alloc W o bt (by have := h.bt; have := h.sz; omega))⟩

/-- the first region of a code. -/
def firstReg : Code → Option Nat
  | .region i _ _ => some i
  | .seq a b => match firstReg a with
    | some i => some i
    | none => firstReg b
  | .block _ c => firstReg c
  | .scope c => firstReg c
  | .loop c => firstReg c
  | _ => none
/-- the code from region n on. -/
def restFrom (n : Nat) : Code → Option Code
  | .region i ops b => if i = n then some (.region i ops b) else none
  | .seq a b => if firstReg (.seq a b) = some n then some (.seq a b) else match restFrom n a with
    | some c => some c
    | none => restFrom n b
  | .block _ c => restFrom n c
  | .scope c => restFrom n c
  | .loop c => restFrom n c
  | .cond _ a b => match restFrom n a with
    | some c => some c
    | none => restFrom n b
  | _ => none

noncomputable def rest8 : Code := (Ybad.f6.body.bind (restFrom 8)).getD .skip
set_option maxRecDepth 100000 in
set_option maxHeartbeats 4000000 in
theorem push8 (V : World) (C bt bc c0 g cap n bx : Nat) (xs : List Value) (cs : List Value) (hcs : cs.length = 18) (h1c : ∀ v ∈ cs, v.oneCell' = true) (hr : RunsAt V C bt bc c0 g cap n xs) (hn : n ≤ 2048) (hbx : V.rangeAt bx 0 cs) (hgbx : g ≠ bx) (hbcx : bc ≠ bx) (hbV : bx < V.heap.size)
    (R : Ending → World → Prop) (hR : ∀ e w', (∃ v, e = .returned v) → PushPost V C bt bc c0 (n + 1) (xs ++ cs) (fun k => k = bc ∨ k = g) w' → R e w') (v1 v2 v5 v6 v7 v8 v9 v10 v11 v12 v13 v14 v15 v16 v17 v18 v19 v20 v21 v22 v23 v24 v25 v26 v27 v28 v29 v30 v31 v32 v33 v34 v35 v36 v37 v38 v39 v40 v41 v42 v43 v44 v45 v46 v47 v48 v49 v50 v51 v52 v53 v54 v55 v56 v57 : Value) :
    Code.wp Ybad.prog rest8 (bodyPost Ybad.prog Ybad.f6 R) ⟨#[.pointer (some ⟨bt, 0, none⟩), v1, v2, .pointer (some ⟨bx, 0, none⟩), .int .i64 1, v5, v6, v7, v8, v9, v10, v11, v12, v13, v14, v15, v16, v17, v18, v19, v20, v21, v22, v23, v24, v25, v26, v27, v28, v29, v30, v31, v32, v33, v34, v35, v36, v37, v38, v39, v40, v41, v42, v43, v44, v45, v46, v47, v48, v49, v50, v51, v52, v53, v54, v55, v56, v57], []⟩ V := by
  have HR : Hid (RunsAt V C bt bc c0 g cap n xs) := hr
  clear hr
  obtain ⟨i1, hi1, hz1, hz2, hz3⟩ := info_parts info68
  conv => arg 2; whnf
  conv => arg 4; dsimp only
  have d1 := HR.out.c1
  have d2 := HR.out.c2
  have hu := Ybad.underlying68
  have hi : (Ybad.prog.info? 68).map (·.size) = some cs.length := by rw [hi1]; show some i1.size = _; rw [hz2, hcs]
  have HI1 : Hid (Ybad.prog.info? 68 = some i1) := hi1
  have HZ1 : Hid (i1.zero = some (.agg (r18 (.int .u32 0) (.int .u32 0) (.int .u32 0)).toArray)) := hz1
  have HZ2 : Hid (i1.size = 18) := hz2
  have HZ3 : Hid (i1.bytes = 64) := hz3
  have HCS : Hid (cs.length = 18) := hcs
  clear hi1 hz1 hz2 hz3 hcs
  obtain ⟨SS, hSS⟩ : ∃ SS : World → Prop, SS = fun W => W.cell? ⟨bt, 0, none⟩ = some (.slice (some ⟨bc, 0, none⟩) 1 c0) ∧ W.rangeAt bx 0 cs := ⟨_, rfl⟩
  have HSS : Hid (SS = fun W => W.cell? ⟨bt, 0, none⟩ = some (.slice (some ⟨bc, 0, none⟩) 1 c0) ∧ W.rangeAt bx 0 cs) := hSS
  have HSd : Hid (SS V.drew) := by rw [hSS]; exact ⟨d1, hbx⟩
  have HRG : Hid (∀ W, SS W → W.rangeAt bx 0 cs) := by rw [hSS]; exact fun W h => h.2
  clear hSS hbx
  refine wp_region_noPanic ?_
  refine wp_region_held (S := SS) (by kernel_rfl) ?_
  refine wpAnyH_take (i := 0) (v := .pointer (some ⟨bt, 0, none⟩)) rfl (by kernel_rfl) (by kernel_rfl) (by kernel_rfl) (fun _ _ _ h => h) (Or.inl ⟨by rfl, fun W hS => by rw [HSS.out] at hS; obtain ⟨q1, _⟩ := hS; go_simp⟩) HSd.out ?_
  refine wpAnyH_take (i := 1) (v := .pointer (some ⟨bt, 0, none⟩)) rfl (by kernel_rfl) (by kernel_rfl) (by kernel_rfl) (fun _ _ _ h => h) (Or.inl ⟨by rfl, fun W hS => by rw [HSS.out] at hS; obtain ⟨q1, _⟩ := hS; go_simp⟩) HSd.out ?_
  refine wpAnyH_take (i := 2) (v := .pointer (some ⟨bt, 0, none⟩)) rfl (by kernel_rfl) (by kernel_rfl) (by kernel_rfl) (fun _ _ _ h => h) (Or.inl ⟨by rfl, fun W hS => by rw [HSS.out] at hS; obtain ⟨q1, _⟩ := hS; go_simp⟩) HSd.out ?_
  refine wpAnyH_take (i := 3) (v := .slice (some ⟨bc, 0, none⟩) 1 c0) rfl (by kernel_rfl) (by kernel_rfl) (by kernel_rfl) (fun _ _ _ h => h) (Or.inl ⟨by rfl, fun W hS => by rw [HSS.out] at hS; obtain ⟨q1, _⟩ := hS; go_simp⟩) HSd.out ?_
  refine wpAnyH_take (i := 4) (v := .int .i64 1) rfl (by kernel_rfl) (by kernel_rfl) (by kernel_rfl) (fun _ _ _ h => h) (Or.inl ⟨by rfl, fun W hS => by rw [HSS.out] at hS; obtain ⟨q1, _⟩ := hS; go_simp⟩) HSd.out ?_
  refine wpAnyH_take (i := 5) (v := .int .i64 0) rfl (by kernel_rfl) (by kernel_rfl) (by kernel_rfl) (fun _ _ _ h => h) (Or.inl ⟨by rfl, fun W hS => by rw [HSS.out] at hS; obtain ⟨q1, _⟩ := hS; go_simp; rfl⟩) HSd.out ?_
  refine wpAnyH_take (i := 6) (v := .pointer (some ⟨bt, 0, none⟩)) rfl (by kernel_rfl) (by kernel_rfl) (by kernel_rfl) (fun _ _ _ h => h) (Or.inl ⟨by rfl, fun W hS => by rw [HSS.out] at hS; obtain ⟨q1, _⟩ := hS; go_simp⟩) HSd.out ?_
  refine wpAnyH_take (i := 7) (v := .pointer (some ⟨bt, 0, none⟩)) rfl (by kernel_rfl) (by kernel_rfl) (by kernel_rfl) (fun _ _ _ h => h) (Or.inl ⟨by rfl, fun W hS => by rw [HSS.out] at hS; obtain ⟨q1, _⟩ := hS; go_simp⟩) HSd.out ?_
  refine wpAnyH_take (i := 8) (v := .pointer (some ⟨bt, 0, none⟩)) rfl (by kernel_rfl) (by kernel_rfl) (by kernel_rfl) (fun _ _ _ h => h) (Or.inl ⟨by rfl, fun W hS => by rw [HSS.out] at hS; obtain ⟨q1, _⟩ := hS; go_simp⟩) HSd.out ?_
  refine wpAnyH_take (i := 9) (v := .slice (some ⟨bc, 0, none⟩) 1 c0) rfl (by kernel_rfl) (by kernel_rfl) (by kernel_rfl) (fun _ _ _ h => h) (Or.inl ⟨by rfl, fun W hS => by rw [HSS.out] at hS; obtain ⟨q1, _⟩ := hS; go_simp⟩) HSd.out ?_
  refine wpAnyH_take (i := 10) (v := .int .i64 1) rfl (by kernel_rfl) (by kernel_rfl) (by kernel_rfl) (fun _ _ _ h => h) (Or.inl ⟨by rfl, fun W hS => by rw [HSS.out] at hS; obtain ⟨q1, _⟩ := hS; go_simp⟩) HSd.out ?_
  refine wpAnyH_take (i := 11) (v := .int .i64 0) rfl (by kernel_rfl) (by kernel_rfl) (by kernel_rfl) (fun _ _ _ h => h) (Or.inl ⟨by rfl, fun W hS => by rw [HSS.out] at hS; obtain ⟨q1, _⟩ := hS; go_simp; rfl⟩) HSd.out ?_
  refine wpAnyH_take (i := 12) (v := .pointer (some ⟨bc, 0, none⟩)) rfl (by kernel_rfl) (by kernel_rfl) (by kernel_rfl) (fun _ _ _ h => h) (Or.inl ⟨by rfl, fun W hS => by rw [HSS.out] at hS; obtain ⟨q1, _⟩ := hS; go_simp⟩) HSd.out ?_
  refine wpAnyH_take (i := 14) (v := .agg cs.toArray) rfl (by kernel_rfl) (by kernel_rfl) (by kernel_rfl) (fun _ _ _ h => h) (yieldsIf_load_mid (by kernel_rfl) 68 (.tmp 3) (by kernel_rfl) bx 0 (by kernel_rfl) cs _ HRG.out Ybad.underlying68 (by kernel_rfl) hi) HSd.out ?_
  refine wpAnyH_all (rs := [13, 15]) (by kernel_rfl) (by simp) ?_
  intro i hmem
  rcases List.mem_cons.1 hmem with rfl | hmem
  · refine wpOp_step rfl (fun K9 hK9 => ?_)
    go_simp
    refine hK9 _ _ ⟨HSd.out, ?_⟩
    clear hK9
    clear d2
    refine wpAnyH_all (rs := [15]) (by kernel_rfl) (by simp) ?_
    intro i hmem
    obtain rfl := List.mem_singleton.1 hmem
    refine wpOp_step rfl (fun K9 hK9 => ?_)
    clear d1
    obtain ⟨x0, x1, x2, x3, x4, x5, x6, x7, x8, x9, x10, x11, x12, x13, x14, x15, x16, x17, rfl⟩ := list18 cs HCS.out
    go_simp
    have hS1 : SS (V.drew.alloc (.cells #[x0, x1, x2, x3, x4, x5, x6, x7, x8, x9, x10, x11, x12, x13, x14, x15, x16, x17] 68)) := by
      rw [HSS.out]
      have h3 := HR.out.alloc (.cells #[x0, x1, x2, x3, x4, x5, x6, x7, x8, x9, x10, x11, x12, x13, x14, x15, x16, x17] 68)
      refine ⟨h3.c1, ?_⟩
      exact World.rangeAt_alloc (HRG.out _ HSd.out) _
    refine hK9 _ _ ⟨hS1, ?_⟩
    clear hK9
    refine wpAnyH_all (rs := [16]) (by kernel_rfl) (by simp) ?_
    intro i hmem
    obtain rfl := List.mem_singleton.1 hmem
    refine wpOp_step rfl (fun K9 hK9 => ?_)
    refine step_append_lies _ (by rfl) (.tmp 53) (.tmp 55) 95 (by rfl) C 68 i1 (.agg (r18 (.int .u32 0) (.int .u32 0) (.int .u32 0)).toArray) 18 64 Ybad.underlying95 HI1.out HZ1.out HZ2.out HZ3.out (by rfl) (by decide) (.slice (some ⟨g, 0, none⟩) n cap) n xs (by rfl) (HR.out.own.drew.alloc _) ⟨V.heap.size, 0, none⟩ 1 1 [x0, x1, x2, x3, x4, x5, x6, x7, x8, x9, x10, x11, x12, x13, x14, x15, x16, x17] (by rfl) (by rfl) (by exact World.news_of_block (cs := #[x0, x1, x2, x3, x4, x5, x6, x7, x8, x9, x10, x11, x12, x13, x14, x15, x16, x17]) (World.alloc_heap_new _ _)) h1c (by decide) (by unfold maxLen; omega) (by omega) (by exact le_alloc HR.out.sz _) (V.heap.size + 1) (by exact World.size_alloc _ _) ?_
    intro g' cap' W1 hown hgrow hat hlt1
    have hgr : (V.alloc (.cells #[x0, x1, x2, x3, x4, x5, x6, x7, x8, x9, x10, x11, x12, x13, x14, x15, x16, x17] 68)).grownBy W1 (some g) := ⟨hgrow.os, hgrow.tape, hgrow.output, hgrow.size, hgrow.block⟩
    have hD := push_done HR.out (XFr.refl V _) hown hgr hat
    have HDN : Hid (PushPost V C bt bc c0 (n + 1) (xs ++ [x0, x1, x2, x3, x4, x5, x6, x7, x8, x9, x10, x11, x12, x13, x14, x15, x16, x17]) (fun k => k = bc ∨ k = g) (W1.setCell ⟨bc, 0, none⟩ (.slice (some ⟨g', 0, none⟩) (n + 1) cap'))) := hD
    have hkp := push_keep HR.out hgr
    have hS2 : SS W1 := by
      rw [HSS.out]
      rw [HSS.out] at hS1
      refine ⟨(World.cell?_of_block (w := V) hkp.2).trans HR.out.c1, ?_⟩
      intro j v hv
      exact (World.cell?_of_block (w := V.drew.alloc (.cells #[x0, x1, x2, x3, x4, x5, x6, x7, x8, x9, x10, x11, x12, x13, x14, x15, x16, x17] 68)) (hgrow.block bx (by show bx < (V.alloc _).heap.size; rw [World.size_alloc]; omega) (fun e => hgbx (Option.some.inj e).symm))).trans (hS1.2 j v hv)
    have f2 : W1.frozen? ⟨bc, 0, none⟩ = false := (World.frozen?_of_block (w := V) hkp.1).trans HR.out.f2
    have c2 : W1.cell? ⟨bc, 0, none⟩ = some (.slice (some ⟨g, 0, none⟩) n cap) := (World.cell?_of_block (w := V) hkp.1).trans HR.out.c2
    have hS3 : SS (W1.setCell ⟨bc, 0, none⟩ (.slice (some ⟨g', 0, none⟩) (n + 1) cap')) := by
      rw [HSS.out]
      rw [HSS.out] at hS2
      refine ⟨(World.cell?_setCell_other _ _ _ _ (fun e => by cases e; exact absurd HR.out.bt (by have := HR.out.ge; omega))).trans hS2.1, ?_⟩
      intro j v hv
      rw [World.cell?_setCell_other _ _ _ _ (fun e => hbcx (congrArg Addr.block e))]
      exact hS2.2 j v hv
    refine hK9 _ _ ⟨hS2, ?_⟩
    clear hK9 hS1 hD hown hgrow hat hlt1 hgr hkp
    refine wpAnyH_take (i := 17) (v := .pointer (some ⟨bc, 0, none⟩)) rfl (by kernel_rfl) (by kernel_rfl) (by kernel_rfl) (fun _ _ _ h => h) (Or.inl ⟨by rfl, fun W hS => by go_simp⟩) hS2 ?_
    refine wpAnyH_all (rs := [18]) (by kernel_rfl) (by simp) ?_
    intro i hmem
    obtain rfl := List.mem_singleton.1 hmem
    refine wpOp_step rfl (fun K9 hK9 => ?_)
    go_simp
    refine hK9 _ _ ⟨hS3, wpAnyH_done (by kernel_rfl) ?_ _⟩
    clear hK9
    refine NoPanic.normal ?_
    go_end0
    exact hR _ _ ⟨_, rfl⟩ HDN.out
  · obtain rfl := List.mem_singleton.1 hmem
    refine wpOp_step rfl (fun K9 hK9 => ?_)
    have d3 : (V.alloc (.cells cs.toArray 68)).cell? ⟨bc, 0, none⟩ = some (.slice (some ⟨g, 0, none⟩) n cap) := (HR.out.alloc _).c2
    clear d2
    clear d1
    obtain ⟨x0, x1, x2, x3, x4, x5, x6, x7, x8, x9, x10, x11, x12, x13, x14, x15, x16, x17, rfl⟩ := list18 cs HCS.out
    go_simp
    have hS1 : SS (V.drew.alloc (.cells #[x0, x1, x2, x3, x4, x5, x6, x7, x8, x9, x10, x11, x12, x13, x14, x15, x16, x17] 68)) := by
      rw [HSS.out]
      have h3 := HR.out.alloc (.cells #[x0, x1, x2, x3, x4, x5, x6, x7, x8, x9, x10, x11, x12, x13, x14, x15, x16, x17] 68)
      refine ⟨h3.c1, ?_⟩
      exact World.rangeAt_alloc (HRG.out _ HSd.out) _
    refine hK9 _ _ ⟨hS1, ?_⟩
    clear hK9
    refine wpAnyH_all (rs := [13]) (by kernel_rfl) (by simp) ?_
    intro i hmem
    obtain rfl := List.mem_singleton.1 hmem
    refine wpOp_step rfl (fun K9 hK9 => ?_)
    go_simp
    refine hK9 _ _ ⟨hS1, ?_⟩
    clear hK9
    refine wpAnyH_all (rs := [16]) (by kernel_rfl) (by simp) ?_
    intro i hmem
    obtain rfl := List.mem_singleton.1 hmem
    refine wpOp_step rfl (fun K9 hK9 => ?_)
    refine step_append_lies _ (by rfl) (.tmp 53) (.tmp 55) 95 (by rfl) C 68 i1 (.agg (r18 (.int .u32 0) (.int .u32 0) (.int .u32 0)).toArray) 18 64 Ybad.underlying95 HI1.out HZ1.out HZ2.out HZ3.out (by rfl) (by decide) (.slice (some ⟨g, 0, none⟩) n cap) n xs (by rfl) (HR.out.own.drew.alloc _) ⟨V.heap.size, 0, none⟩ 1 1 [x0, x1, x2, x3, x4, x5, x6, x7, x8, x9, x10, x11, x12, x13, x14, x15, x16, x17] (by rfl) (by rfl) (by exact World.news_of_block (cs := #[x0, x1, x2, x3, x4, x5, x6, x7, x8, x9, x10, x11, x12, x13, x14, x15, x16, x17]) (World.alloc_heap_new _ _)) h1c (by decide) (by unfold maxLen; omega) (by omega) (by exact le_alloc HR.out.sz _) (V.heap.size + 1) (by exact World.size_alloc _ _) ?_
    intro g' cap' W1 hown hgrow hat hlt1
    have hgr : (V.alloc (.cells #[x0, x1, x2, x3, x4, x5, x6, x7, x8, x9, x10, x11, x12, x13, x14, x15, x16, x17] 68)).grownBy W1 (some g) := ⟨hgrow.os, hgrow.tape, hgrow.output, hgrow.size, hgrow.block⟩
    have hD := push_done HR.out (XFr.refl V _) hown hgr hat
    have HDN : Hid (PushPost V C bt bc c0 (n + 1) (xs ++ [x0, x1, x2, x3, x4, x5, x6, x7, x8, x9, x10, x11, x12, x13, x14, x15, x16, x17]) (fun k => k = bc ∨ k = g) (W1.setCell ⟨bc, 0, none⟩ (.slice (some ⟨g', 0, none⟩) (n + 1) cap'))) := hD
    have hkp := push_keep HR.out hgr
    have hS2 : SS W1 := by
      rw [HSS.out]
      rw [HSS.out] at hS1
      refine ⟨(World.cell?_of_block (w := V) hkp.2).trans HR.out.c1, ?_⟩
      intro j v hv
      exact (World.cell?_of_block (w := V.drew.alloc (.cells #[x0, x1, x2, x3, x4, x5, x6, x7, x8, x9, x10, x11, x12, x13, x14, x15, x16, x17] 68)) (hgrow.block bx (by show bx < (V.alloc _).heap.size; rw [World.size_alloc]; omega) (fun e => hgbx (Option.some.inj e).symm))).trans (hS1.2 j v hv)
    have f2 : W1.frozen? ⟨bc, 0, none⟩ = false := (World.frozen?_of_block (w := V) hkp.1).trans HR.out.f2
    have c2 : W1.cell? ⟨bc, 0, none⟩ = some (.slice (some ⟨g, 0, none⟩) n cap) := (World.cell?_of_block (w := V) hkp.1).trans HR.out.c2
    have hS3 : SS (W1.setCell ⟨bc, 0, none⟩ (.slice (some ⟨g', 0, none⟩) (n + 1) cap')) := by
      rw [HSS.out]
      rw [HSS.out] at hS2
      refine ⟨(World.cell?_setCell_other _ _ _ _ (fun e => by cases e; exact absurd HR.out.bt (by have := HR.out.ge; omega))).trans hS2.1, ?_⟩
      intro j v hv
      rw [World.cell?_setCell_other _ _ _ _ (fun e => hbcx (congrArg Addr.block e))]
      exact hS2.2 j v hv
    refine hK9 _ _ ⟨hS2, ?_⟩
    clear hK9 hS1 hD hown hgrow hat hlt1 hgr hkp
    refine wpAnyH_take (i := 17) (v := .pointer (some ⟨bc, 0, none⟩)) rfl (by kernel_rfl) (by kernel_rfl) (by kernel_rfl) (fun _ _ _ h => h) (Or.inl ⟨by rfl, fun W hS => by go_simp⟩) hS2 ?_
    refine wpAnyH_all (rs := [18]) (by kernel_rfl) (by simp) ?_
    intro i hmem
    obtain rfl := List.mem_singleton.1 hmem
    refine wpOp_step rfl (fun K9 hK9 => ?_)
    go_simp
    refine hK9 _ _ ⟨hS3, wpAnyH_done (by kernel_rfl) ?_ _⟩
    clear hK9
    refine NoPanic.normal ?_
    go_end0
    exact hR _ _ ⟨_, rfl⟩ HDN.out

theorem PushPost.from {w V : World} {C bt bc c0 n : Nat} {xs : List Value} {U : Nat → Prop} {w' : World} (h : PushPost V C bt bc c0 n xs U w') (hx : XFr w V U) : PushPost w C bt bc c0 n xs U w' := by
  obtain ⟨g, cap, h1, h2⟩ := h
  exact ⟨g, cap, h1, hx.trans h2 (fun _ h => Or.inl h)⟩
set_option maxRecDepth 100000 in
set_option maxHeartbeats 4000000 in
theorem push_next (w : World) (C bt bc c0 g cap n : Nat) (xs : List Value) (cs : List Value) (hcs : cs.length = 18) (h1c : ∀ v ∈ cs, v.oneCell' = true) (h : RunsAt w C bt bc c0 g cap n xs) (hn : n ≤ 2048) :
    Calls Ybad.prog 6 #[.pointer (some ⟨bt, 0, none⟩), .agg cs.toArray] w fun e w' => (∃ v, e = .returned v) ∧ PushPost w C bt bc c0 (n + 1) (xs ++ cs) (fun k => k = bc ∨ k = g) w' := by
  have H : Hid (RunsAt w C bt bc c0 g cap n xs) := h
  have c1 := h.c1
  have c2 := h.c2
  have hlt := h.lt
  have hbt : bt < w.heap.size := Nat.lt_of_lt_of_le h.bt h.sz
  clear h
  go_enter Ybad.func6, Ybad.ntmps6
  go_wp2_with fail
  refine push8 (w.alloc (.cells cs.toArray 68)) C bt bc c0 g cap n w.heap.size xs cs hcs h1c (H.out.alloc _) hn (range_new w cs 68) (by have h1 := (H.out.own.lt g rfl).2; omega) (by omega) (by rw [World.size_alloc]; omega) (fun e w' => (∃ v, e = .returned v) ∧ PushPost w C bt bc c0 (n + 1) (xs ++ cs) (fun k => k = bc ∨ k = g) w') (fun e w' he hp => ⟨he, hp.from ((XFr.refl w _).alloc _)⟩) _ _ _ _ _ _ _ _ _ _ _ _ _ _ _ _ _ _ _ _ _ _ _ _ _ _ _ _ _ _ _ _ _ _ _ _ _ _ _ _ _ _ _ _ _ _ _ _ _ _ _ _ _ _ _
end Go.Proofs.YbulkdhcgDoor
