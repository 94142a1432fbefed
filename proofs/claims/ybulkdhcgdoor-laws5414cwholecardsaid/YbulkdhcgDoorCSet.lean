/-
  countSet in memory, to be written: its rows, and what a write leaves.
-/
import Derived.Test.YbulkdhcgDoorSetL
import Derived.Laws.AppendOwn
import Derived.OwnWalk
import Derived.RangeFuncBox
import Derived.OneCell
import Derived.Deep.AppendLies
import Derived.Lib.Builder
namespace Go.Proofs.YbulkdhcgDoor
open Go.RowKit

/-- what a write to the set in cell od of block bd leaves: U are the blocks of its rows. -/
structure CFr (w W : World) (bd od : Nat) (U : Nat → Prop) : Prop where
  os : W.os = w.os
  tape : W.tape = w.tape
  output : W.output = w.output
  size : w.heap.size ≤ W.heap.size
  blk : ∀ k, k < w.heap.size → k ≠ bd → ¬ U k → W.heap[k]? = w.heap[k]?
  cel : ∀ j, j ≠ od → W.cell? ⟨bd, j, none⟩ = w.cell? ⟨bd, j, none⟩
  frz : ∀ j, W.frozen? ⟨bd, j, none⟩ = w.frozen? ⟨bd, j, none⟩
theorem CFr.refl (w : World) (bd od : Nat) (U : Nat → Prop) : CFr w w bd od U := ⟨rfl, rfl, rfl, Nat.le_refl _, fun _ _ _ _ => rfl, fun _ _ => rfl, fun _ => rfl⟩
theorem CFr.grown {w W W' : World} {bd od : Nat} {U : Nat → Prop} {row : Option Nat} (h : CFr w W bd od U) (hb : bd < w.heap.size) (hg : W.grownBy W' row) (hr : ∀ r, row = some r → r ≠ bd ∧ (U r ∨ w.heap.size ≤ r)) : CFr w W' bd od U := by
  have hbd : W'.heap[bd]? = W.heap[bd]? := hg.block bd (Nat.lt_of_lt_of_le hb h.size) (fun e => (hr bd e.symm).1 rfl)
  refine ⟨hg.os.trans h.os, hg.tape.trans h.tape, hg.output.trans h.output, Nat.le_trans h.size hg.size, fun k hk h1 h2 => ?_, fun j hj => ?_, fun j => ?_⟩
  · refine (hg.block k (Nat.lt_of_lt_of_le hk h.size) (fun e => ?_)).trans (h.blk k hk h1 h2)
    rcases (hr k e.symm).2 with h3 | h3
    · exact h2 h3
    · omega
  · exact (World.cell?_of_block (w := W) hbd).trans (h.cel j hj)
  · exact (World.frozen?_of_block (w := W) hbd).trans (h.frz j)
theorem CFr.alloc {w W : World} {bd od : Nat} {U : Nat → Prop} (h : CFr w W bd od U) (hb : bd < w.heap.size) (o : Obj) : CFr w (W.alloc o) bd od U := h.grown hb (World.grownBy_alloc W o none) (fun r e => by cases e)
theorem CFr.setCell {w W : World} {bd od : Nat} {U : Nat → Prop} (h : CFr w W bd od U) (hb : bd < w.heap.size) (g j : Nat) (u : Value) (hg : g ≠ bd ∧ (U g ∨ w.heap.size ≤ g)) : CFr w (W.setCell ⟨g, j, none⟩ u) bd od U :=
  h.grown hb (row := some g) ⟨rfl, rfl, rfl, by show W.heap.size ≤ (W.heap.modify _ _).size; rw [Array.size_modify]; exact Nat.le_refl _, fun k _ hk => Below.heap_setCell W ⟨g, j, none⟩ u k (fun e => hk (by rw [e]))⟩ (fun r e => by cases e; exact hg)
theorem CFr.setTop {w W : World} {bd od : Nat} {U : Nat → Prop} (h : CFr w W bd od U) (u : Value) : CFr w (W.setCell ⟨bd, od, none⟩ u) bd od U :=
  ⟨h.os, h.tape, h.output, by show w.heap.size ≤ (W.heap.modify _ _).size; rw [Array.size_modify]; exact h.size, fun k hk h1 h2 => (Below.heap_setCell W ⟨bd, od, none⟩ u k h1).trans (h.blk k hk h1 h2),
    fun j hj => (World.cell?_setCell_other _ _ _ _ (fun e => hj (by cases e; rfl))).trans (h.cel j hj), fun j => (by rw [World.frozen?_setCell]; exact h.frz j)⟩

/-- level i's words as cells. -/
def wl (s : Lvs) (i : Nat) : List Value := (List.range (s.nw i)).map fun j => .int .u64 (s.wd i j : Nat)
/-- the set's rows; of the levels in ex nothing is said. -/
structure CSAt (s : Lvs) (ex : Nat → Prop) (w : World) (C bd od : Nat) (v : Value) (lv : Nat → Value) : Prop where
  top : w.cell? ⟨bd, od, none⟩ = some v
  fz : w.frozen? ⟨bd, od, none⟩ = false
  bdC : bd < C
  size : C ≤ w.heap.size
  row : w.ownsRow C 109 1 v s.L ((List.range s.L).map lv)
  lev : ∀ i, i < s.L → ¬ ex i → w.ownsRow C 24 1 (lv i) (s.nw i) (wl s i)
  dis : ∀ i j, i < s.L → j < s.L → i ≠ j → ¬ ex i → ¬ ex j → ∀ g, (lv i).ownBlock = some g → (lv j).ownBlock ≠ some g
/-- the blocks of the rows. -/
def Ub (L : Nat) (v : Value) (lv : Nat → Value) (g : Nat) : Prop := v.ownBlock = some g ∨ ∃ i, i < L ∧ (lv i).ownBlock = some g

/-- a row of one type is no row of another. -/
theorem own_ne {w : World} {C e1 e2 n1 n2 : Nat} {v1 v2 : Value} {x1 x2 : List Value} (h1 : w.ownsRow C e1 1 v1 n1 x1) (h2 : w.ownsRow C e2 1 v2 n2 x2) (he : e1 ≠ e2) : ∀ g, v1.ownBlock = some g → v2.ownBlock ≠ some g := by
  intro g hg1 hg2
  rcases h1.2 with ⟨rfl, _⟩ | ⟨g1, c1, u1, rfl, _, hh1, _⟩
  · cases hg1
  · rcases h2.2 with ⟨rfl, _⟩ | ⟨g2, c2, u2, rfl, _, hh2, _⟩
    · cases hg2
    · cases hg1; cases hg2
      rw [hh1] at hh2; cases hh2; exact he rfl

/-- a store into a row of one's own. -/
theorem own_set {w : World} {C e n g cap : Nat} {xs : List Value} (h : w.ownsRow C e 1 (.slice (some ⟨g, 0, none⟩) n cap) n xs) (j : Nat) (u : Value) : (w.setCell ⟨g, j, none⟩ u).ownsRow C e 1 (.slice (some ⟨g, 0, none⟩) n cap) n (xs.set j u) := by
  obtain ⟨hl, ⟨h1, _⟩ | ⟨g', cap', cur, hv, hC, hg, hnc, hcm, hcs, ht⟩⟩ := h
  · cases h1
  · cases hv
    refine ⟨by rw [List.length_set]; exact hl, Or.inr ⟨g, cap, cur.setIfInBounds j u, rfl, hC, ?_, hnc, hcm, by rw [Array.size_setIfInBounds]; exact hcs, ?_⟩⟩
    · show (w.heap.modify g _)[g]? = _
      have hlt := (Array.getElem?_eq_some_iff.1 hg).1
      rw [Array.getElem?_eq_getElem (by rw [Array.size_modify]; exact hlt), Array.getElem_modify_self, (Array.getElem?_eq_some_iff.1 hg).2]
      rfl
    · rw [Array.toList_setIfInBounds, ← ht, List.take_set]

theorem CSAt.grown {s : Lvs} {ex : Nat → Prop} {w W : World} {C bd od : Nat} {v : Value} {lv : Nat → Value} {row : Option Nat} (h : CSAt s ex w C bd od v lv) (hg : w.grownBy W row) (hr : ∀ r, row = some r → r ≠ bd ∧ v.ownBlock ≠ some r ∧ ∀ i, i < s.L → ¬ ex i → (lv i).ownBlock ≠ some r) : CSAt s ex W C bd od v lv := by
  have hb : bd < w.heap.size := Nat.lt_of_lt_of_le h.bdC h.size
  have hbd : W.heap[bd]? = w.heap[bd]? := hg.block bd hb (fun e => (hr bd e.symm).1 rfl)
  refine ⟨(World.cell?_of_block (w := w) hbd).trans h.top, (World.frozen?_of_block (w := w) hbd).trans h.fz, h.bdC, Nat.le_trans h.size hg.size, h.row.kept hg ?_, fun i hi hx => (h.lev i hi hx).kept hg ?_, h.dis⟩
  · cases e : v.ownBlock with
    | none => exact Or.inl rfl
    | some g => exact Or.inr (fun e2 => (hr g e2.symm).2.1 e)
  · cases e : (lv i).ownBlock with
    | none => exact Or.inl rfl
    | some g => exact Or.inr (fun e2 => (hr g e2.symm).2.2 i hi hx e)
/-- one level more, empty. -/
def Lvs.more (s : Lvs) : Lvs where
  L := s.L + 1
  nw := fun k => if k = s.L then 0 else s.nw k
  wd := s.wd
theorem Lvs.more_bit (s : Lvs) (i x : Nat) : s.more.bit i x = s.bit i x := by
  rw [Lvs.bit_old, Lvs.bit_old]
  have e : s.more.old i (x / 64) = s.old i (x / 64) := by
    unfold Lvs.old Lvs.more
    simp only
    by_cases h : i = s.L
    · rw [if_neg (by rw [if_pos h]; omega), if_neg (by omega)]
    · simp only [if_neg h]
      by_cases h2 : i < s.L ∧ x / 64 < s.nw i
      · rw [if_pos h2, if_pos ⟨by omega, h2.2⟩]
      · rw [if_neg h2, if_neg (fun h3 => h2 ⟨by omega, h3.2⟩)]
  rw [e]
theorem Lvs.Ok.more {s : Lvs} (h : s.Ok) (hL : s.L ≤ 64) : s.more.Ok :=
  ⟨h.lt, fun i x hx b hb => by rw [s.more_bit] at hx ⊢; exact h.up i x hx b hb, fun x hx => by rw [s.more_bit] at hx; exact h.hi x hx, fun i => by unfold Lvs.more; simp only; split; omega; exact h.nw i, by unfold Lvs.more; simp only; omega⟩
/-- the new level in memory: the row of levels appended to and stored. -/
theorem CSAt.more {s : Lvs} {w W : World} {C bd od : Nat} {v v' : Value} {lv : Nat → Value} (h : CSAt s (fun _ => False) w C bd od v lv) (hg : w.grownBy W v.ownBlock) (ho : W.ownsRow C 109 1 v' (s.L + 1) ((List.range s.L).map lv ++ [.slice none 0 0])) :
    CSAt s.more (fun _ => False) (W.setCell ⟨bd, od, none⟩ v') C bd od v' (fun k => if k = s.L then .slice none 0 0 else lv k) := by
  have hvb : ∀ g, v.ownBlock = some g → C ≤ g := fun g e => (h.row.lt g e).1
  have hb : bd < w.heap.size := Nat.lt_of_lt_of_le h.bdC h.size
  have hbd : W.heap[bd]? = w.heap[bd]? := hg.block bd hb (fun e => by have := hvb bd e.symm; have := h.bdC; omega)
  have hlv : ∀ i, i < s.L → W.ownsRow C 24 1 (lv i) (s.nw i) (wl s i) := fun i hi => (h.lev i hi (fun e => e)).kept hg (by
    cases e : (lv i).ownBlock with
    | none => exact Or.inl rfl
    | some g => exact Or.inr (fun e2 => own_ne (h.lev i hi (fun e => e)) h.row (by decide) g e e2.symm))
  refine ⟨World.cell?_setCell_same' W ⟨bd, od, none⟩ v' (by rw [(World.cell?_of_block (w := w) hbd).trans h.top]; rfl), by rw [World.frozen?_setCell]; exact (World.frozen?_of_block (w := w) hbd).trans h.fz, h.bdC, ?_, ?_, fun i hi _ => ?_, fun i j hi hj hij _ _ g hg1 hg2 => ?_⟩
  · show C ≤ (W.heap.modify _ _).size
    rw [Array.size_modify]; exact Nat.le_trans h.size hg.size
  · have e : (List.range s.more.L).map (fun k => if k = s.L then Value.slice none 0 0 else lv k) = (List.range s.L).map lv ++ [.slice none 0 0] := by
      show (List.range (s.L + 1)).map _ = _
      rw [List.range_succ, List.map_append]
      congr 1
      · exact List.map_congr_left (fun k hk => by have := List.mem_range.1 hk; rw [if_neg (by omega)])
      · simp
    rw [e]
    exact ownsRow_setCell_other ho (fun e2 => by have := (ho.lt bd e2).1; have := h.bdC; omega) _
  · by_cases e : i = s.L
    · subst e
      have e1 : s.more.nw s.L = 0 := by unfold Lvs.more; simp
      have e2 : wl s.more s.L = [] := by unfold wl; rw [e1]; rfl
      rw [e1, e2, if_pos rfl]
      exact World.ownsRow_nil _ _ _ _
    · have hi' : i < s.L := by have : i < s.L + 1 := hi; omega
      have e1 : s.more.nw i = s.nw i := by unfold Lvs.more; simp [e]
      have e2 : wl s.more i = wl s i := by unfold wl; rw [e1]; rfl
      rw [e1, e2, if_neg e]
      exact ownsRow_setCell_other (hlv i hi') (fun e3 => by have := ((hlv i hi').lt bd e3).1; have := h.bdC; omega) _
  · have hi2 : i < s.L + 1 := hi
    have hj2 : j < s.L + 1 := hj
    by_cases e : i = s.L
    · rw [if_pos e] at hg1; cases hg1
    · by_cases e2 : j = s.L
      · rw [if_pos e2] at hg2; cases hg2
      · rw [if_neg e] at hg1; rw [if_neg e2] at hg2
        exact h.dis i j (by omega) (by omega) hij (fun e => e) (fun e => e) g hg1 hg2
end Go.Proofs.YbulkdhcgDoor
