/-
  A new actor: the text's own call.
-/
import Derived.Test.YbulkdhcgDoorLawActs
namespace Go.Proofs.YbulkdhcgDoor
open Go.RowKit

/-- ahead of the text's own call: the bytes stand. -/
structure P33 (I : Inp) (wo : World) (bC bA bt n g cap xp xb Z T : Nat) (wy : World) : Prop where
  fr : XFr wo wy (fun k => k = bC)
  cC : wy.cell? ⟨bC, n, none⟩ = some (.slice (some ⟨g, 0, none⟩) T cap)
  cC' : ∀ j, j ≠ n → wy.cell? ⟨bC, j, none⟩ = wo.cell? ⟨bC, j, none⟩
  fC : ∀ j, wy.frozen? ⟨bC, j, none⟩ = wo.frozen? ⟨bC, j, none⟩
  chr : ∀ j, j < T → wy.cell? ⟨g, j, none⟩ = some (.string (st ((I.cs n).getD j [])))
  box : wy.cell? ⟨xp, 0, none⟩ = some (.slice (some ⟨xb, 0, none⟩) Z (4 * T))
  own : wy.ownsRow wo.heap.size 5 1 (.slice (some ⟨xb, 0, none⟩) Z (4 * T)) Z (bcs (I.cs n).flatten)
  l1 : wo.heap.size ≤ g ∧ wo.heap.size ≤ xp
  hT : T = I.tot n
  hZ : Z = (I.cs n).flatten.length
  T4 : T ≤ 4096
  n1 : n < I.nA
  tree : wo.heap[bt]? = some (.cells #[.slice none 0 0, .slice none 0 0, .slice none 0 0, .slice none 0 0, .slice none 0 0, .slice none 0 0, .slice none 0 0, .int .u32 0, .int .i32 0, .int .i64 0, .int .i64 0, .int .i64 0, .slice (some ⟨bA, 0, none⟩) I.nA I.nA, .pointer none, .pointer none] 45)
  act : wo.cell? ⟨bA, n * 9 + 2, none⟩ = some (.pointer none) ∧ wo.cell? ⟨bA, n * 9 + 3, none⟩ = some (.slice none 0 0) ∧ wo.cell? ⟨bA, n * 9 + 4, none⟩ = some (.int .i64 0) ∧ wo.cell? ⟨bA, n * 9 + 5, none⟩ = some (.int .u32 0) ∧ wo.cell? ⟨bA, n * 9 + 6, none⟩ = some (.bool false)
  afrz : ∀ j, wo.frozen? ⟨bA, j, none⟩ = false
  o1 : bC < bA
  o2 : bA < bt
theorem P33.there {I : Inp} {wo wy : World} {bC bA bt n g cap xp xb Z T : Nat} (h : P33 I wo bC bA bt n g cap xp xb Z T wy) : wy.there bA (n * 9 + 2) 5 := by
  have hb : wy.heap[bA]? = wo.heap[bA]? := h.fr.blk bA (World.block_lt_of_cell? wo _ h.act.1) (by have := h.o1; omega)
  obtain ⟨k1, k2, k3, k4, k5⟩ := h.act
  intro j hj
  refine ⟨?_, (World.frozen?_of_block (w := wo) hb).trans (h.afrz _)⟩
  rw [World.cell?_of_block (w := wo) hb]
  match j, hj with
  | 0, _ => rw [k1]; rfl
  | 1, _ => rw [k2]; rfl
  | 2, _ => rw [k3]; rfl
  | 3, _ => rw [k4]; rfl
  | 4, _ => rw [k5]; rfl
/-- the world behind the store of the text. -/
def w33 (wy : World) (bA n xp : Nat) : World := wy.setCells bA (n * 9 + 2) [.pointer (some ⟨xp, 0, none⟩), .slice none 0 0, .int .i64 0, .int .u32 0, .bool false]
theorem P33.cellA {I : Inp} {wo wy : World} {bC bA bt n g cap xp xb Z T : Nat} (h : P33 I wo bC bA bt n g cap xp xb Z T wy) : ∀ j (hj : j < 5), (w33 wy bA n xp).cell? ⟨bA, n * 9 + 2 + j, none⟩ = some (([.pointer (some ⟨xp, 0, none⟩), .slice none 0 0, .int .i64 0, .int .u32 0, .bool false] : List Value)[j]) := fun j hj =>
  World.cell?_setCells_in bA [.pointer (some ⟨xp, 0, none⟩), .slice none 0 0, .int .i64 0, .int .u32 0, .bool false] (n * 9 + 2) wy (fun i hi => (h.there i hi).1) j hj
theorem w33_fr (wy : World) (bA n xp : Nat) : XFr wy (w33 wy bA n xp) (fun k => k = bA) := XFr.setCells (U := fun k => k = bA) bA (Or.inl rfl) _ _ (XFr.refl _ _)
theorem w33_far (wy : World) (bA n xp j : Nat) (hj : j < n * 9 + 2 ∨ n * 9 + 6 < j) : (w33 wy bA n xp).cell? ⟨bA, j, none⟩ = wy.cell? ⟨bA, j, none⟩ := by
  unfold w33
  rw [World.cell?_setCells_out bA _ _ _ _ (fun _ _ => by show j < n * 9 + 2 ∨ n * 9 + 2 + 5 ≤ j; omega)]
theorem w33_frz (wy : World) (bA n xp b j : Nat) : (w33 wy bA n xp).frozen? ⟨b, j, none⟩ = wy.frozen? ⟨b, j, none⟩ := World.frozen?_setCells bA _ _ _ _
theorem P33.add {I : Inp} {wo wy : World} {bC bA bt n g cap xp xb Z T : Nat} (h : P33 I wo bC bA bt n g cap xp xb Z T wy) : Calls Ybad.prog 5 #[.pointer (some ⟨bA, n * 9 + 2, none⟩), .string (st (I.cs n).flatten), .int .i64 0] (w33 wy bA n xp).drew fun e w' => (∃ v, e = .returned v) ∧ AddTPost T (offL (I.cs n)) (yo (I.cs n).flatten) (w33 wy bA n xp).drew bA (n * 9 + 2) w' := by
  have hb : wy.heap[bA]? = wo.heap[bA]? := h.fr.blk bA (World.block_lt_of_cell? wo _ h.act.1) (by have := h.o1; omega)
  have ht : T = (I.cs n).length := h.hT
  have h4 := offL_le (I.cs_len n) (I.cs n).length (Nat.le_refl _)
  have hT4 := h.T4
  have c1 := h.cellA 1 (by omega)
  have c2 := h.cellA 2 (by omega)
  have c3 := h.cellA 3 (by omega)
  have c4 := h.cellA 4 (by omega)
  have hlt : bA < (w33 wy bA n xp).heap.size := by
    have h6 : bA < wo.heap.size := World.block_lt_of_cell? wo _ h.act.1
    have h7 := h.fr.size
    have h8 := (w33_fr wy bA n xp).size
    omega
  have hfz : ∀ j, (w33 wy bA n xp).frozen? ⟨bA, j, none⟩ = false := fun j => by
    rw [w33_frz]
    exact (World.frozen?_of_block (w := wo) hb).trans (h.afrz j)
  generalize w33 wy bA n xp = X at c1 c2 c3 c4 hlt hfz ⊢
  exact addT_any (I.cs n).flatten (offL (I.cs n)) T X.drew bA (n * 9 + 2) (by rw [ht]; exact offs_flat (I.cs_one n)) (by rw [ht, offL_all]) (by omega) (by have := I.tot_pos n; have := h.hT; omega) (by rw [ht]; omega) hlt c1 c2 c3 c4 hfz
theorem P33.box' {I : Inp} {wo wy : World} {bC bA bt n g cap xp xb Z T : Nat} (h : P33 I wo bC bA bt n g cap xp xb Z T wy) : wy.cell? ⟨xp, 0, none⟩ = some (.slice (some ⟨xb, 0, none⟩) (offL (I.cs n) T) (4 * T)) := by
  have ht : T = (I.cs n).length := h.hT
  have e : offL (I.cs n) T = Z := by rw [ht, offL_all, h.hZ]
  rw [e]; exact h.box
theorem P33.done {I : Inp} {wo wy W : World} {bC bA bt n g cap xp xb Z T : Nat} (h : P33 I wo bC bA bt n g cap xp xb Z T wy) (hp : AddTPost T (offL (I.cs n)) (yo (I.cs n).flatten) (w33 wy bA n xp).drew bA (n * 9 + 2) W) : ∃ xm xmc t, NewT I wo bC bA n g cap xp xb (4 * T) xm xmc t W := by
  obtain ⟨m, mn, mw, xm, xmc, q1, q2, q3, q4, q5, q6, q7⟩ := hp
  have ht : T = (I.cs n).length := h.hT
  have o1 := h.o1
  have o2 := h.o2
  have hA0 : bA < wo.heap.size := World.block_lt_of_cell? wo _ h.act.1
  have f1 := h.fr.size
  have x1 := w33_fr wy bA n xp
  have x2 := w33_far wy bA n xp
  have x3 := w33_frz wy bA n xp bA
  have x4 := h.cellA 0 (by omega)
  generalize w33 wy bA n xp = X at q4 q6 x1 x2 x3 x4
  have f2 := x1.size
  have f3 : X.heap.size ≤ W.heap.size := q6.size
  have hT4 := h.T4
  have hb : wy.heap[bA]? = wo.heap[bA]? := h.fr.blk bA hA0 (by omega)
  have mv : ∀ k, k < wy.heap.size → k ≠ bA → W.heap[k]? = wy.heap[k]? := fun k hk hn => (q6.blk k (by show k < X.heap.size; omega) hn (fun e => e)).trans (x1.blk k hk hn)
  have cel : ∀ {k j : Nat} {v : Value}, k ≠ bA → wy.cell? ⟨k, j, none⟩ = some v → W.cell? ⟨k, j, none⟩ = some v := fun {k j v} hn hc => (World.cell?_of_block (w := wy) (mv k (World.block_lt_of_cell? wy _ hc) hn)).trans hc
  have hxp := World.block_lt_of_cell? wy _ h.box
  have hxb := h.own.lt xb rfl
  have hbC : bC < wy.heap.size := World.block_lt_of_cell? wy _ h.cC
  have hbC2 : W.heap[bC]? = wy.heap[bC]? := mv bC hbC (by omega)
  have l1 := h.l1
  have hxp2 : xp < wy.heap.size := hxp
  have h4 := offL_le (I.cs_len n) (I.cs n).length (Nat.le_refl _)
  refine ⟨xm, xmc, ⟨m, mn, mw, T, offL (I.cs n), yo (I.cs n).flatten⟩, q6.os.trans (x1.os.trans h.fr.os), q6.tape.trans (x1.tape.trans h.fr.tape), q6.output.trans (x1.output.trans h.fr.output), by omega, fun k hk h1 h2 => (mv k (by omega) h2).trans (h.fr.blk k hk h1), ?_, fun j hj => (World.cell?_of_block (w := wy) hbC2).trans (h.cC' j hj), fun j => (World.frozen?_of_block (w := wy) hbC2).trans (h.fC j), fun j hj => ?_, fun j => ?_, fun j hj => ?_, ⟨?_, cel (by omega) h.box', fun j hj => ?_, q2, fun i hi => (q7 i hi).1, fun i hi => (q7 i hi).2.1, fun i hi => (q7 i hi).2.2, q3, ?_, ?_⟩, q1, fun j => yo_lt _ j, h.hT, fun k hk => ?_, ⟨⟨l1.2, by omega⟩, ⟨hxb.1, by omega⟩, ⟨by have h9 : X.heap.size ≤ xm := q4; omega, q5⟩, l1.1⟩⟩
  · rw [← h.hT]; exact cel (by omega) h.cC
  · have h5 : W.cell? ⟨bA, j, none⟩ = X.cell? ⟨bA, j, none⟩ := q6.cel j (by omega)
    rw [h5, x2 j hj]
    exact World.cell?_of_block (w := wo) hb
  · have h5 : W.frozen? ⟨bA, j, none⟩ = X.frozen? ⟨bA, j, none⟩ := q6.frz j
    rw [h5, x3 j]
    exact World.frozen?_of_block (w := wo) hb
  · rw [← h.hT] at hj
    exact cel (by omega) (h.chr j hj)
  · have h5 : W.cell? ⟨bA, n * 9 + 2, none⟩ = X.cell? ⟨bA, n * 9 + 2, none⟩ := q6.cel _ (by omega)
    rw [h5]; exact x4
  · have hj2 : j < (I.cs n).flatten.length := by rw [← offL_all, ← ht]; exact hj
    have h5 := own_cell h.own (g := xb) (j := j) rfl (u := .int .u8 (yo (I.cs n).flatten j)) (by
      unfold bcs yo
      rw [List.getElem?_map, List.getElem?_eq_getElem hj2, List.getD_eq_getElem?_getD, List.getElem?_eq_getElem hj2]; rfl)
    exact cel (by omega) h5
  · show offL (I.cs n) T ≤ 4 * T
    rw [ht]; exact h4
  · show 4 * T ≤ 1048576
    omega
  · have hk2 : k < (I.cs n).length := by rw [← ht, h.hT]; exact hk
    have h5 := chb_flat m mn mw hk2
    rw [← ht] at h5
    exact h5
end Go.Proofs.YbulkdhcgDoor
