/-
  The loop over the runs, at its end: the tree.
-/
import Derived.Test.YbulkdhcgDoorLawOut
namespace Go.Proofs.YbulkdhcgDoor
open Go.RowKit

/-- the tree that the law has built. -/
def dv (I : Inp) (bt bA bc c0 g cap bL M nL p : Nat) (bp bb bcap bm mcap : Nat → Nat) (tx : Nat → Mk) : TreeD :=
  { bt := bt, bA := bA, nA := I.nA, capA := I.nA, bc := bc, c0 := c0, b0 := g, nR := I.n1 + 1, capR := cap, bL := bL, nl := M, capL := M, bi := 0, ci := 0, bd := 0, cd := 0, bp := bp, bb := bb, bcap := bcap, bm := bm, mcap := mcap, tx := tx, S := fun _ _ => false, v := ⟨nL, cn p I.n1, fun j k => (j - 1) * p + k + 1⟩, ra := fun x => I.ra (x - 1), rn := fun x => I.rn (x - 1), rl := fun x => I.rl (x - 1), ins := I.ins }
theorem dv_xs {I : Inp} {bt bA bc c0 g cap bL M nL p : Nat} {bp bb bcap bm mcap : Nat → Nat} {tx : Nat → Mk} (hL3 : I.n1 ≤ nL * p) : (dv I bt bA bc c0 g cap bL M nL p bp bb bcap bm mcap tx).xs = List.range' 1 I.n1 := by
  have h := all_runs (p := p) (nL := nL) (n := I.n1) hL3 nL 1 (by omega) (by omega)
  simp only [Nat.sub_self, Nat.zero_mul, Nat.zero_add, Nat.sub_zero] at h
  exact h
theorem R5.tq0 {I : Inp} {w0 W : World} {bC bt bA bc c0 g cap bL M nL p C bra brn brl : Nat} {bs cc bp bb bcap bm mcap : Nat → Nat} {tx : Nat → Mk} {wo : World} (hG : G3 I w0 W bC bt bA bs cc bp bb bcap bm mcap tx) (h : R5 I p nL W C bt bL bra brn brl bc c0 g cap I.n1 wo) (hsm : I.Sm) (hI : I.At w0) (hbe : Below w0.heap.size w0 wo) (hL1 : 1 ≤ nL) (hL3 : I.n1 ≤ nL * p) :
    TQ0 (dv I bt bA bc c0 g cap bL M nL p bp bb bcap bm mcap tx) wo := by
  have o0 := h.o0
  have o1 := h.o1
  have o2 := h.o2
  have o3 := h.o3
  have o4 := h.o4
  have o5 := h.o5
  have b1 := h.runs.ge
  have b2 := h.runs.own.lt g rfl
  have b5 := h.runs.sz
  have b6 := h.runs.lt
  have fs := h.fr.size
  have hw0 : 0 < w0.heap.size := World.block_lt_of_cell? w0 _ (hI.tab 0 (by omega))
  have hlt := hG.lt
  have hkb := kept_bt h.fr
  have hnA := Inp.nA_le hsm
  have hn1 := hsm.n1
  refine ⟨⟨by omega, by show 0 ≠ bt; omega, by show 0 ≠ bL; omega⟩, by show bt < _; omega, ⟨by have := hG.lA.1; show bA < _; omega, hG.lA.2, by have := hG.lA.1; show bA ≠ bL; omega⟩, ⟨b6, by show bc ≠ bt; omega, by show bc ≠ bL; omega⟩, ⟨b2.2, by show g ≠ bt; omega, by show g ≠ bL; omega⟩, ⟨by show bL < _; omega, by show bL ≠ bt; omega⟩, fun a ha => ?_, ?_, h.runs.c1, fun j hj => ?_, h.runs.c2, by show I.n1 + 1 ≤ 4096; omega, hL1, (hI.below hbe).tab, fun a ha => ?_, hG.ok, hG.y, fun x hx => ?_, ?_, by show I.nA ≤ 4096; omega⟩
  · obtain ⟨k1, k2, k3, k4, k5, k6, _⟩ := hG.l7 a ha
    refine ⟨by show bp a < _; omega, by show bb a < _; omega, by show bm a < _; omega, k4, k5, k6, by show bp a ≠ bL; omega, by show bb a ≠ bL; omega, by show bm a ≠ bL; omega⟩
  · exact (h.bts 12 (by omega)).trans (by rw [cell_blk hG.tree]; rfl)
  · refine ⟨?_, (h.frz _).trans (frozen_of hG.tree)⟩
    show (wo.cell? ⟨bt, 3 + j, none⟩).isSome = true
    rw [h.bts (3 + j) (by omega), cell_blk hG.tree, Array.getElem?_eq_getElem (by simp; omega)]
    rfl
  · obtain ⟨k1, k2, k3, k4, k5, k6, _⟩ := hG.l7 a ha
    exact (hG.txt a ha).kept hkb (fun _ _ => hG.lA) (fun _ _ => ⟨k1, k4⟩) (fun _ _ => ⟨k2, k5⟩) (fun _ _ => ⟨k3, k6⟩)
  · rw [dv_xs hL3] at hx
    obtain ⟨h1, h2⟩ := List.mem_range'_1.1 hx
    obtain ⟨i, rfl⟩ : ∃ i, x = i + 1 := ⟨x - 1, by omega⟩
    have hi : i < I.n1 := by omega
    have cel : ∀ q v, q < 18 → (r18 (.int .u32 (I.ra i : Nat)) (.int .u32 (I.rn i : Nat)) (.int .u32 (I.rl i : Nat)))[q]? = some v → wo.cell? ⟨g, (i + 1) * 18 + q, none⟩ = some v := fun q v hq hv => by
      have h5 := h.runs.own.cells (g := g) rfl ((i + 1) * 18 + q) v (by rw [runL_at I hi q hq]; exact hv)
      rw [Addr.add_mid, Nat.zero_add] at h5
      exact h5
    refine ⟨by show i + 1 < I.n1 + 1; omega, I.ra_lt i, ?_, cel 0 _ (by omega) rfl, cel 1 _ (by omega) rfl, cel 2 _ (by omega) rfl⟩
    show I.rn i + I.rl i ≤ (tx (I.ra i)).n
    rw [hG.n _ (I.ra_lt i)]
    exact I.rl_le i
  · rw [dv_xs hL3, List.length_range']; omega
theorem R5.li {I : Inp} {W : World} {bt bA bc c0 g cap bL M nL p C bra brn brl : Nat} {bp bb bcap bm mcap : Nat → Nat} {tx : Nat → Mk} {wo : World} (h : R5 I p nL W C bt bL bra brn brl bc c0 g cap I.n1 wo) (hp : p ≤ 64) : LI (dv I bt bA bc c0 g cap bL M nL p bp bb bcap bm mcap tx).v bL 1 wo wo := by
  refine ⟨h.lv.num, fun k h1 h2 => ⟨0, h.lv.live k h1 h2⟩, fun k h1 h2 i hi => ?_, fun k h1 h2 => ?_, h.lv.frz, XFr.refl _ _⟩
  · have hi2 : i < cn p I.n1 k := hi
    have h5 := h.lv.run k h1 h2 i (by unfold cn at hi2; omega)
    rw [if_pos hi2] at h5
    exact h5
  · rw [if_neg (by omega)]; exact h.lv.next k h1 h2
theorem dv_out {I : Inp} {w0 W : World} {bC bt bA bc c0 g cap bL M nL p : Nat} {bs cc bp bb bcap bm mcap : Nat → Nat} {tx : Nat → Mk} (hG : G3 I w0 W bC bt bA bs cc bp bb bcap bm mcap tx) (hL3 : I.n1 ≤ nL * p) (bi ci bd cd : Nat) : (TreeD.out { dv I bt bA bc c0 g cap bL M nL p bp bb bcap bm mcap tx with bi := bi, ci := ci, ins := I.ins, bd := bd, cd := cd, S := I.D I.n5 } (dv I bt bA bc c0 g cap bL M nL p bp bb bcap bm mcap tx).xs) = I.want (I.D I.n5) I.n1 := by
  rw [dv_xs hL3]
  exact out_want I _ (I.D I.n5) (fun i => rfl) (fun i => rfl) (fun i => rfl) rfl rfl hG.ch I.n1
end Go.Proofs.YbulkdhcgDoor
