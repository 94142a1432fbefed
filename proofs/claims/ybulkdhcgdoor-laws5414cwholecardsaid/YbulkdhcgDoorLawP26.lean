/-
  A new actor: the bytes are laid.
-/
import Derived.Test.YbulkdhcgDoorLawR33
namespace Go.Proofs.YbulkdhcgDoor
open Go.RowKit

/-- the characters as cells. -/
def csv (L : List (List UInt8)) : List Value := L.map fun l => .string (st l)
/-- the characters of actor n stand. -/
structure P26 (I : Inp) (wo : World) (bC bA bt n g cap T : Nat) (wx : World) : Prop where
  fr : XFr wo wx (fun _ => False)
  own : wx.ownsRow wo.heap.size 9 1 (.slice (some ⟨g, 0, none⟩) T cap) T (csv (I.cs n))
  hT : T = I.tot n
  T4 : T ≤ 4096
  n1 : n < I.nA
  tree : wo.heap[bt]? = some (.cells #[.slice none 0 0, .slice none 0 0, .slice none 0 0, .slice none 0 0, .slice none 0 0, .slice none 0 0, .slice none 0 0, .int .u32 0, .int .i32 0, .int .i64 0, .int .i64 0, .int .i64 0, .slice (some ⟨bA, 0, none⟩) I.nA I.nA, .pointer none, .pointer none] 45)
  act : wo.cell? ⟨bA, n * 9 + 2, none⟩ = some (.pointer none) ∧ wo.cell? ⟨bA, n * 9 + 3, none⟩ = some (.slice none 0 0) ∧ wo.cell? ⟨bA, n * 9 + 4, none⟩ = some (.int .i64 0) ∧ wo.cell? ⟨bA, n * 9 + 5, none⟩ = some (.int .u32 0) ∧ wo.cell? ⟨bA, n * 9 + 6, none⟩ = some (.bool false)
  afrz : ∀ j, wo.frozen? ⟨bA, j, none⟩ = false
  cn : wo.cell? ⟨bC, n, none⟩ = some (.slice none 0 0)
  cfrz : ∀ j, wo.frozen? ⟨bC, j, none⟩ = false
  o1 : bC < bA
  o2 : bA < bt
theorem P26.chr {I : Inp} {wo wx : World} {bC bA bt n g cap T : Nat} (h : P26 I wo bC bA bt n g cap T wx) {j : Nat} (hj : j < T) : wx.cell? ⟨g, j, none⟩ = some (.string (st ((I.cs n).getD j []))) := by
  have hj2 : j < (I.cs n).length := by have := h.hT; unfold Inp.tot at this; omega
  exact own_cell h.own (g := g) (j := j) rfl (by unfold csv; rw [List.getElem?_map, List.getElem?_eq_getElem hj2, List.getD_eq_getElem?_getD, List.getElem?_eq_getElem hj2]; rfl)
/-- the bytes while they are laid. -/
structure BI (I : Inp) (B n xp xb K k m : Nat) (V wy : World) : Prop where
  box : wy.cell? ⟨xp, 0, none⟩ = some (.slice (some ⟨xb, 0, none⟩) m K)
  frz : wy.frozen? ⟨xp, 0, none⟩ = false
  own : wy.ownsRow B 5 1 (.slice (some ⟨xb, 0, none⟩) m K) m (bcs ((I.cs n).take k).flatten)
  fr : XFr V wy (fun q => q = xp ∨ q = xb)
theorem BI.put {I : Inp} {B n xp xb K k m : Nat} {V wy w' : World} {l : Nat} (h : BI I B n xp xb K k m V wy) (hk : k < (I.cs n).length) (hne : xp ≠ xb) (ho : w'.ownsRow B 5 1 (.slice (some ⟨xb, 0, none⟩) (m + l) K) (m + l) (bcs ((I.cs n).take k).flatten ++ bcs ((I.cs n).getD k []))) (hg : wy.grownBy w' (some xb)) :
    BI I B n xp xb K (k + 1) (m + l) V (w'.setCell ⟨xp, 0, none⟩ (.slice (some ⟨xb, 0, none⟩) (m + l) K)) := by
  have hb : w'.heap[xp]? = wy.heap[xp]? := hg.block xp (World.block_lt_of_cell? wy _ h.box) (fun e => hne (Option.some.inj e))
  refine ⟨World.cell?_setCell_same _ _ _ ((World.cell?_of_block (w := wy) hb).trans h.box), by rw [World.frozen?_setCell]; exact (World.frozen?_of_block (w := wy) hb).trans h.frz, ?_, (h.fr.grown hg (fun r e => Or.inl (Or.inr (Option.some.inj e).symm))).set xp 0 _ (Or.inl (Or.inl rfl))⟩
  rw [flat_take _ hk, bcs_append]
  exact own_xfr ho (fun q hq => by have e : xb = q := Option.some.inj hq; exact Below.heap_setCell w' _ _ q (fun e2 => hne (by rw [e]; exact e2.symm)))
theorem P26.start {I : Inp} {wo wx : World} {bC bA bt n g cap T : Nat} (h : P26 I wo bC bA bt n g cap T wx) (v : Value) (Z : Array Value) (K : Nat) (hZ : Z.size = K) (hK : K ≤ 65536) :
    BI I wo.heap.size n (wx.heap.size + 1) wx.heap.size K 0 0 (((wx.setCell ⟨bC, n, none⟩ v).alloc (.cells Z 5)).alloc (.cells #[.slice (some ⟨wx.heap.size, 0, none⟩) 0 K] 27)) (((wx.setCell ⟨bC, n, none⟩ v).alloc (.cells Z 5)).alloc (.cells #[.slice (some ⟨wx.heap.size, 0, none⟩) 0 K] 27)) := by
  have s0 : (wx.setCell ⟨bC, n, none⟩ v).heap.size = wx.heap.size := set_size _ _ _
  have s1 : ((wx.setCell ⟨bC, n, none⟩ v).alloc (.cells Z 5)).heap.size = wx.heap.size + 1 := by rw [World.size_alloc, s0]
  have n1 : (((wx.setCell ⟨bC, n, none⟩ v).alloc (.cells Z 5)).alloc (.cells #[.slice (some ⟨wx.heap.size, 0, none⟩) 0 K] 27)).heap[wx.heap.size + 1]? = some (.cells #[.slice (some ⟨wx.heap.size, 0, none⟩) 0 K] 27) := by have := World.alloc_heap_new ((wx.setCell ⟨bC, n, none⟩ v).alloc (.cells Z 5)) (.cells #[.slice (some ⟨wx.heap.size, 0, none⟩) 0 K] 27); rw [s1] at this; exact this
  have n2 : (((wx.setCell ⟨bC, n, none⟩ v).alloc (.cells Z 5)).alloc (.cells #[.slice (some ⟨wx.heap.size, 0, none⟩) 0 K] 27)).heap[wx.heap.size]? = some (.cells Z 5) := by
    rw [Below.heap_alloc _ _ _ (by rw [s1]; omega)]
    have := World.alloc_heap_new (wx.setCell ⟨bC, n, none⟩ v) (.cells Z 5)
    rw [s0] at this; exact this
  refine ⟨by rw [cell_blk n1]; rfl, frozen_of n1, ⟨by simp [bcs], Or.inr ⟨wx.heap.size, K, Z, rfl, h.fr.size, n2, by omega, by unfold maxLen; omega, by omega, by simp [bcs]⟩⟩, XFr.refl _ _⟩
theorem P26.p33 {I : Inp} {wo wx wy : World} {bC bA bt n g cap T K m : Nat} {Z : Array Value} (h : P26 I wo bC bA bt n g cap T wx) (hK : K = 4 * T)
    (hB : BI I wo.heap.size n (wx.heap.size + 1) wx.heap.size K T m (((wx.setCell ⟨bC, n, none⟩ (.slice (some ⟨g, 0, none⟩) T cap)).alloc (.cells Z 5)).alloc (.cells #[.slice (some ⟨wx.heap.size, 0, none⟩) 0 K] 27)) wy) : P33 I wo bC bA bt n g cap (wx.heap.size + 1) wx.heap.size m T wy := by
  have s0 : (wx.setCell ⟨bC, n, none⟩ (.slice (some ⟨g, 0, none⟩) T cap)).heap.size = wx.heap.size := set_size _ _ _
  have s1 : ((wx.setCell ⟨bC, n, none⟩ (.slice (some ⟨g, 0, none⟩) T cap)).alloc (.cells Z 5)).heap.size = wx.heap.size + 1 := by rw [World.size_alloc, s0]
  have o1 := h.o1
  have o2 := h.o2
  have ob := blk_lt h.tree
  have f1 := h.fr.size
  have hbC : bC < wx.heap.size := by omega
  have old : ∀ k, k < wx.heap.size → wy.heap[k]? = (wx.setCell ⟨bC, n, none⟩ (.slice (some ⟨g, 0, none⟩) T cap)).heap[k]? := fun k hk => by
    rw [hB.fr.blk k (by rw [World.size_alloc, s1]; omega) (by omega), Below.heap_alloc _ _ _ (by rw [s1]; omega), Below.heap_alloc _ _ _ (by rw [s0]; omega)]
  have old2 : ∀ k, k < wx.heap.size → k ≠ bC → wy.heap[k]? = wx.heap[k]? := fun k hk hn => (old k hk).trans (Below.heap_setCell wx _ _ k hn)
  have hbx : wx.heap[bC]? = wo.heap[bC]? := h.fr.blk bC (by omega) (fun e => e)
  have hg := h.own.lt g rfl
  have hl : T = (I.cs n).length := h.hT
  refine ⟨⟨hB.fr.os.trans h.fr.os, hB.fr.tape.trans h.fr.tape, hB.fr.output.trans h.fr.output, by have := hB.fr.size; rw [World.size_alloc, s1] at this; omega, fun k hk hn => (old2 k (by omega) hn).trans (h.fr.blk k hk (fun e => e))⟩, ?_, fun j hj => ?_, fun j => ?_, fun j hj => ?_, by rw [← hK]; exact hB.box, by
    have h5 := hB.own
    rw [hl, List.take_length, hK] at h5
    exact h5, ⟨hg.1, by omega⟩, h.hT, ?_, h.T4, h.n1, h.tree, h.act, h.afrz, o1, o2⟩
  · exact (World.cell?_of_block (w := wx.setCell ⟨bC, n, none⟩ (.slice (some ⟨g, 0, none⟩) T cap)) (old bC hbC)).trans (World.cell?_setCell_same _ _ _ ((World.cell?_of_block (w := wo) hbx).trans h.cn))
  · exact (World.cell?_of_block (w := wx.setCell ⟨bC, n, none⟩ (.slice (some ⟨g, 0, none⟩) T cap)) (old bC hbC)).trans ((World.cell?_setCell_other _ _ _ _ (fun e => hj (congrArg Addr.off e).symm)).trans (World.cell?_of_block (w := wo) hbx))
  · refine (World.frozen?_of_block (w := wx.setCell ⟨bC, n, none⟩ (.slice (some ⟨g, 0, none⟩) T cap)) (old bC hbC)).trans ?_
    rw [World.frozen?_setCell]
    exact World.frozen?_of_block (w := wo) hbx
  · exact (World.cell?_of_block (w := wx) (old2 g hg.2 (by omega))).trans (h.chr hj)
  · have h5 := hB.own.1
    rw [hl, List.take_length, bcs_length] at h5
    omega
end Go.Proofs.YbulkdhcgDoor
