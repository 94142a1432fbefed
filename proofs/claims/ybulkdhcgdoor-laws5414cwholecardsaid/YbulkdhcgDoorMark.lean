/-
  charText.mark.
-/
import Derived.Test.YbulkdhcgDoorAscii
import Derived.Deep.RegionLaw
namespace Go.Proofs.YbulkdhcgDoor
open Go.RowKit

theorem info91 : (Ybad.prog.info? 91).map (fun i => (i.zero, i.size, i.bytes)) = some (some (.agg #[.int .u32 0, .bool false, .int .i64 0]), 3, 16) := by kernel_rfl

/-- what a write to the charText at offset oa of block ba leaves; U: blocks that may be written too. -/
structure MFr (w W : World) (ba oa : Nat) (U : Nat → Prop) : Prop where
  os : W.os = w.os
  tape : W.tape = w.tape
  output : W.output = w.output
  size : w.heap.size ≤ W.heap.size
  blk : ∀ k, k < w.heap.size → k ≠ ba → ¬ U k → W.heap[k]? = w.heap[k]?
  cel : ∀ j, j < oa + 1 ∨ oa + 4 < j → W.cell? ⟨ba, j, none⟩ = w.cell? ⟨ba, j, none⟩
  frz : ∀ j, W.frozen? ⟨ba, j, none⟩ = w.frozen? ⟨ba, j, none⟩
theorem MFr.refl (w : World) (ba oa : Nat) (U : Nat → Prop) : MFr w w ba oa U := ⟨rfl, rfl, rfl, Nat.le_refl _, fun _ _ _ _ => rfl, fun _ _ => rfl, fun _ => rfl⟩
theorem MFr.set {w W : World} {ba oa : Nat} {U : Nat → Prop} (h : MFr w W ba oa U) (j : Nat) (hj : oa + 1 ≤ j ∧ j ≤ oa + 4) (u : Value) : MFr w (W.setCell ⟨ba, j, none⟩ u) ba oa U :=
  ⟨h.os, h.tape, h.output, by show w.heap.size ≤ (W.heap.modify _ _).size; rw [Array.size_modify]; exact h.size, fun k hk h1 h2 => (Below.heap_setCell W ⟨ba, j, none⟩ u k h1).trans (h.blk k hk h1 h2),
    fun i hi => (World.cell?_setCell_other _ _ _ _ (fun e => by cases e; omega)).trans (h.cel i hi), fun i => (by rw [World.frozen?_setCell]; exact h.frz i)⟩
theorem MFr.grown {w W W' : World} {ba oa : Nat} {U : Nat → Prop} {row : Option Nat} (h : MFr w W ba oa U) (hb : ba < w.heap.size) (hg : W.grownBy W' row) (hr : ∀ r, row = some r → r ≠ ba ∧ (U r ∨ w.heap.size ≤ r)) : MFr w W' ba oa U := by
  have hbd : W'.heap[ba]? = W.heap[ba]? := hg.block ba (Nat.lt_of_lt_of_le hb h.size) (fun e => (hr ba e.symm).1 rfl)
  refine ⟨hg.os.trans h.os, hg.tape.trans h.tape, hg.output.trans h.output, Nat.le_trans h.size hg.size, fun k hk h1 h2 => ?_, fun j hj => ?_, fun j => ?_⟩
  · refine (hg.block k (Nat.lt_of_lt_of_le hk h.size) (fun e => ?_)).trans (h.blk k hk h1 h2)
    rcases (hr k e.symm).2 with h3 | h3
    · exact h2 h3
    · omega
  · exact (World.cell?_of_block (w := W) hbd).trans (h.cel j hj)
  · exact (World.frozen?_of_block (w := W) hbd).trans (h.frz j)
theorem MFr.comp {w W W' : World} {ba oa : Nat} {U V : Nat → Prop} (h : MFr w W ba oa U) (k : MFr W W' ba oa V) (hv : ∀ g, V g → U g ∨ w.heap.size ≤ g) : MFr w W' ba oa U :=
  ⟨k.os.trans h.os, k.tape.trans h.tape, k.output.trans h.output, Nat.le_trans h.size k.size, fun q hq h1 h2 => (k.blk q (Nat.lt_of_lt_of_le hq h.size) h1 (fun e => (hv q e).elim h2 (fun e => by omega))).trans (h.blk q hq h1 h2), fun j hj => (k.cel j hj).trans (h.cel j hj), fun j => (k.frz j).trans (h.frz j)⟩

/-- what mark leaves. -/
def MarkPost (w : World) (C ba oa m : Nat) (v : Value) (ys : List Value) (wd : Bool) (w' : World) : Prop :=
  ∃ g cap, w'.ownsRow C 91 3 (.slice (some ⟨g, 0, none⟩) (m + 1) cap) (m + 1) ys ∧ w'.cell? ⟨ba, oa + 1, none⟩ = some (.slice (some ⟨g, 0, none⟩) (m + 1) cap) ∧ w'.cell? ⟨ba, oa + 4, none⟩ = some (.bool wd) ∧
    w'.cell? ⟨ba, oa + 2, none⟩ = w.cell? ⟨ba, oa + 2, none⟩ ∧ w'.cell? ⟨ba, oa + 3, none⟩ = w.cell? ⟨ba, oa + 3, none⟩ ∧ MFr w w' ba oa (fun r => v.ownBlock = some r)

theorem three_new (w : World) (a b c : Value) (T : TypeId) : ∀ j u, [a, b, c][j]? = some u → (w.alloc (.cells #[a, b, c] T)).cell? ((⟨w.heap.size, 0, none⟩ : Addr).add j) = some u :=
  World.news_of_block (cs := #[a, b, c]) (World.alloc_heap_new w _)

theorem le_alloc {w : World} {C : Nat} (h : C ≤ w.heap.size) (o : Obj) : C ≤ (w.alloc o).heap.size := by rw [World.size_alloc]; omega
theorem mark_blk {w W1 : World} {C ba m cap : Nat} {a : Option Addr} {xs : List Value} (hv : w.ownsRow C 91 3 (.slice a m cap) m xs) (hbC : ba < C) (hC : C ≤ w.heap.size) {o : Obj} (hg : (w.alloc o).drew.grownBy W1 (Value.slice a m cap).ownBlock) : W1.heap[ba]? = w.heap[ba]? :=
  (hg.block ba (by show ba < (w.alloc o).heap.size; rw [World.size_alloc]; omega) (fun e => by have := (hv.lt ba e.symm).1; omega)).trans (Below.heap_alloc w o ba (by omega))

theorem mark_done {w W1 : World} {C ba oa m cap g cap' : Nat} {a : Option Addr} {xs ys : List Value} (u : Bool) (hv : w.ownsRow C 91 3 (.slice a m cap) m xs) (hbC : ba < C) (hC : C ≤ w.heap.size) {o : Obj} (hown : W1.ownsRow C 91 3 (.slice (some ⟨g, 0, none⟩) (m + 1) cap') (m + 1) ys)
    (hg : (w.alloc o).drew.grownBy W1 (Value.slice a m cap).ownBlock) (hb : W1.heap[ba]? = w.heap[ba]?) {u1 u4 : Value} (c1 : w.cell? ⟨ba, oa + 1, none⟩ = some u1) (c4 : w.cell? ⟨ba, oa + 4, none⟩ = some u4) :
    MarkPost w C ba oa m (.slice a m cap) ys u ((W1.setCell ⟨ba, oa + 1, none⟩ (.slice (some ⟨g, 0, none⟩) (m + 1) cap')).setCell ⟨ba, oa + 4, none⟩ (.bool u)) := by
  have hba : ba < W1.heap.size := by have := hg.size; have h2 : (w.alloc o).drew.heap.size = w.heap.size + 1 := World.size_alloc w o; omega
  have hgb : C ≤ g := (hown.lt g rfl).1
  have hne : ∀ j k, j ≠ k → (⟨ba, j, none⟩ : Addr) ≠ ⟨ba, k, none⟩ := fun j k h e => h (by cases e; rfl)
  have c : ∀ j, W1.cell? ⟨ba, j, none⟩ = w.cell? ⟨ba, j, none⟩ := fun j => World.cell?_of_block (w := w) hb
  have hk : ∀ (W : World) (j : Nat) (u : Value), W.grownBy (W.setCell ⟨ba, j, none⟩ u) (some ba) := fun W j u => ⟨rfl, rfl, rfl, by show W.heap.size ≤ (W.heap.modify _ _).size; rw [Array.size_modify]; exact Nat.le_refl _, fun k _ hkne => Below.heap_setCell W ⟨ba, j, none⟩ u k (fun e => hkne (by rw [e]))⟩
  have hog : (Value.slice (some ⟨g, 0, none⟩) (m + 1) cap').ownBlock ≠ some ba := fun e => by have e2 : g = ba := Option.some.inj e; omega
  refine ⟨g, cap', (hown.kept (hk _ _ _) (Or.inr hog)).kept (hk _ _ _) (Or.inr hog), ?_, ?_, ?_, ?_, ?_⟩
  · rw [World.cell?_setCell_other _ _ _ _ (hne _ _ (by omega))]; exact World.cell?_setCell_same _ _ _ ((c _).trans c1)
  · refine World.cell?_setCell_same _ _ _ (u := u4) ?_
    rw [World.cell?_setCell_other _ _ _ _ (hne _ _ (by omega)), c]; exact c4
  · rw [World.cell?_setCell_other _ _ _ _ (hne _ _ (by omega)), World.cell?_setCell_other _ _ _ _ (hne _ _ (by omega)), c]
  · rw [World.cell?_setCell_other _ _ _ _ (hne _ _ (by omega)), World.cell?_setCell_other _ _ _ _ (hne _ _ (by omega)), c]
  · refine MFr.set (MFr.set (MFr.grown ?_ (Nat.lt_of_lt_of_le hbC hC) hg (fun r e => ⟨by have := (hv.lt r e).1; omega, Or.inl e⟩)) (oa + 1) (by omega) _) (oa + 4) (by omega) _
    have h1 : MFr w (w.alloc o) ba oa (fun r => (Value.slice a m cap).ownBlock = some r) := MFr.grown (MFr.refl _ _ _ _) (Nat.lt_of_lt_of_le hbC hC) (row := none) (World.grownBy_alloc w o none) (fun r e => by cases e)
    exact ⟨h1.os, h1.tape, h1.output, h1.size, h1.blk, h1.cel, h1.frz⟩

set_option maxRecDepth 100000 in
set_option maxHeartbeats 4000000 in
theorem mark_any (w : World) (C ba oa m cap n at' : Nat) (a : Option Addr) (xs : List Value) (wd wide : Bool) (hv : w.ownsRow C 91 3 (.slice a m cap) m xs) (c1 : w.cell? ⟨ba, oa + 1, none⟩ = some (.slice a m cap)) (c3 : w.cell? ⟨ba, oa + 3, none⟩ = some (.int .u32 n)) (c4 : w.cell? ⟨ba, oa + 4, none⟩ = some (.bool wd))
    (f1 : w.frozen? ⟨ba, oa + 1, none⟩ = false) (f4 : w.frozen? ⟨ba, oa + 4, none⟩ = false) (hbC : ba < C) (hC : C ≤ w.heap.size) (hm : m ≤ 16384) :
    Calls Ybad.prog 9 #[.pointer (some ⟨ba, oa, none⟩), .int .i64 at', .bool wide] w fun e w' => (∃ u, e = .returned u) ∧ MarkPost w C ba oa m (.slice a m cap) (xs ++ [.int .u32 n, .bool wide, .int .i64 at']) (wd || wide) w' := by
  have HV : Hid (w.ownsRow C 91 3 (.slice a m cap) m xs) := hv
  obtain ⟨i1, hi1, hz1, hz2, hz3⟩ := info_parts info91
  clear hv
  have cA : (w.alloc (.cells #[.int .u32 n, .bool wide, .int .i64 at'] 91)).cell? ⟨ba, oa + 1, none⟩ = some (.slice a m cap) := (World.cell?_of_block (w := w) (Below.heap_alloc w _ ba (by omega))).trans c1
  go_enter Ybad.func9, Ybad.ntmps9
  go_wp2_with fail
  go_region_law ((refine step_append_lies _ (by rfl) (.tmp 10) (.tmp 18) 49 (by rfl) C 91 i1 (.agg #[.int .u32 0, .bool false, .int .i64 0]) 3 16 Ybad.underlying49 hi1 hz1 hz2 hz3 (by rfl) (by decide) (.slice a m cap) m xs (by rfl) (HV.out.alloc _).drew ⟨w.heap.size, 0, none⟩ 1 1 [.int .u32 n, .bool wide, .int .i64 at'] (by rfl) (by rfl) (by exact three_new _ _ _ _ _) (by intro u hu; simp at hu; rcases hu with rfl | rfl | rfl <;> rfl) (by decide) (by unfold maxLen; omega) (by omega) (by exact le_alloc hC _) (w.heap.size + 1) (by exact World.size_alloc _ _) ?_; intro g cap' W1 hown hgrow hat hlt; have hb : W1.heap[ba]? = w.heap[ba]? := mark_blk HV.out hbC hC hgrow; have e1 : W1.cell? ⟨ba, oa + 1, none⟩ = some (.slice a m cap) := (World.cell?_of_block (w := w) hb).trans c1; have g1 : W1.frozen? ⟨ba, oa + 1, none⟩ = false := (World.frozen?_of_block (w := w) hb).trans f1))
  all_goals
    have HP := fun (u : Bool) => mark_done u HV.out hbC hC hown hgrow hb c1 c4
    have d4 : (W1.setCell ⟨ba, oa + 1, none⟩ (.slice (some ⟨g, 0, none⟩) (m + 1) cap')).cell? ⟨ba, oa + 4, none⟩ = some (.bool wd) := (World.cell?_setCell_other _ _ _ _ (fun e => by cases e)).trans ((World.cell?_of_block (w := w) hb).trans c4)
    have g4 : (W1.setCell ⟨ba, oa + 1, none⟩ (.slice (some ⟨g, 0, none⟩) (m + 1) cap')).frozen? ⟨ba, oa + 4, none⟩ = false := by rw [World.frozen?_setCell]; exact (World.frozen?_of_block (w := w) hb).trans f4
    have HPP : Hid (∀ u, MarkPost w C ba oa m (.slice a m cap) (xs ++ [.int .u32 n, .bool wide, .int .i64 at']) u ((W1.setCell ⟨ba, oa + 1, none⟩ (.slice (some ⟨g, 0, none⟩) (m + 1) cap')).setCell ⟨ba, oa + 4, none⟩ (.bool u))) := HP
    clear hown hgrow hat hlt hb e1 g1 HP
    cases wd
    · go_wp2
      go_end0
      exact ⟨⟨_, rfl⟩, by simpa using HPP.out _⟩
    · go_wp2
      go_end0
      exact ⟨⟨_, rfl⟩, by simpa using HPP.out _⟩
end Go.Proofs.YbulkdhcgDoor
