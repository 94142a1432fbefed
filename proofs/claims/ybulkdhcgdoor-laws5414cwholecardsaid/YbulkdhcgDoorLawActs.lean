/-
  The actors: their characters, as plain data and in memory.
-/
import Derived.Test.YbulkdhcgDoorLawOut
namespace Go.Proofs.YbulkdhcgDoor
open Go.RowKit

/-- where the characters of L stand. -/
def offL (L : List (List UInt8)) (k : Nat) : Nat := (L.take k).flatten.length
theorem flat_at : ∀ (L : List (List UInt8)) (k j : Nat), k < L.length → j < (L.getD k []).length → L.flatten[offL L k + j]? = (L.getD k [])[j]?
  | [], k, _, hk, _ => by simp at hk
  | l :: L, 0, j, _, hj => by
    have hj2 : j < l.length := hj
    show (l ++ L.flatten)[0 + j]? = l[j]?
    rw [Nat.zero_add, List.getElem?_append_left hj2]
  | l :: L, k + 1, j, hk, hj => by
    have ih := flat_at L k j (by simpa using hk) hj
    show (l ++ L.flatten)[(l ++ (L.take k).flatten).length + j]? = (L.getD k [])[j]?
    rw [← ih, List.length_append, Nat.add_assoc, List.getElem?_append_right (by omega), Nat.add_sub_cancel_left]
    rfl
theorem offL_succ : ∀ (L : List (List UInt8)) (k : Nat), k < L.length → offL L (k + 1) = offL L k + (L.getD k []).length
  | [], k, hk => by simp at hk
  | l :: L, 0, _ => by
    show (l ++ ((L.take 0)).flatten).length = 0 + l.length
    simp
  | l :: L, k + 1, hk => by
    have ih := offL_succ L k (by simpa using hk)
    show (l ++ (L.take (k + 1)).flatten).length = (l ++ (L.take k).flatten).length + (L.getD k []).length
    rw [List.length_append, List.length_append]
    unfold offL at ih
    omega
theorem offL_all (L : List (List UInt8)) : offL L L.length = L.flatten.length := by unfold offL; rw [List.take_length]
theorem flat_take (L : List (List UInt8)) {k : Nat} (hk : k < L.length) : (L.take (k + 1)).flatten = (L.take k).flatten ++ L.getD k [] := by
  rw [List.take_add_one, List.flatten_append, List.getElem?_eq_getElem hk]
  simp [List.getD_eq_getElem?_getD, hk]
/-- each is one character. -/
def OneCh (L : List (List UInt8)) : Prop := ∀ l ∈ L, 0 < l.length ∧ sl (yo l 0) = l.length
theorem one_at {L : List (List UInt8)} (h : OneCh L) {k : Nat} (hk : k < L.length) : 0 < (L.getD k []).length ∧ sl (yo (L.getD k []) 0) = (L.getD k []).length := by
  rw [List.getD_eq_getElem?_getD, List.getElem?_eq_getElem hk]
  exact h _ (List.getElem_mem hk)
theorem yo_flat {L : List (List UInt8)} {k j : Nat} (hk : k < L.length) (hj : j < (L.getD k []).length) : yo L.flatten (offL L k + j) = yo (L.getD k []) j := by
  unfold yo
  rw [List.getD_eq_getElem?_getD, flat_at L k j hk hj, ← List.getD_eq_getElem?_getD]
theorem offs_flat {L : List (List UInt8)} (h : OneCh L) : Offs (yo L.flatten) (offL L) L.length :=
  ⟨by unfold offL; simp, fun k hk => by
    obtain ⟨h1, h2⟩ := one_at h hk
    have h3 := yo_flat (j := 0) hk h1
    rw [Nat.add_zero] at h3
    rw [offL_succ L k hk, h3, h2]⟩
theorem u8_yo (l : List UInt8) (j : Nat) : u8 (yo l j) = l.getD j 0 := by
  unfold u8 yo
  simp
theorem chb_flat {L : List (List UInt8)} (m : Nat) (mn : Nat → Nat) (mw : Nat → Bool) {k : Nat} (hk : k < L.length) : chb ⟨m, mn, mw, L.length, offL L, yo L.flatten⟩ k = L.getD k [] := by
  unfold chb
  show (List.range (offL L (k + 1) - offL L k)).map (fun j => u8 (yo L.flatten (offL L k + j))) = _
  rw [offL_succ L k hk, Nat.add_sub_cancel_left]
  apply List.ext_getElem?
  intro j
  by_cases hj : j < (L.getD k []).length
  · rw [List.getElem?_map, List.getElem?_range hj]
    show some (u8 (yo L.flatten (offL L k + j))) = _
    rw [yo_flat hk hj, u8_yo, List.getD_eq_getElem?_getD, List.getElem?_eq_getElem hj]; rfl
  · rw [List.getElem?_eq_none (by rw [List.length_map, List.length_range]; omega), List.getElem?_eq_none (by omega)]
theorem ch_one (c : Nat) : 0 < (ch c).length ∧ sl (yo (ch c) 0) = (ch c).length := by
  unfold ch
  have h := Nat.mod_lt c (y := 6) (by omega)
  generalize c % 6 = z at h ⊢
  match z, h with
  | 0, _ => decide
  | 1, _ => decide
  | 2, _ => decide
  | 3, _ => decide
  | 4, _ => decide
  | 5, _ => decide
theorem Inp.cs_one (I : Inp) (a : Nat) : OneCh (I.cs a) := by
  intro l hl
  unfold Inp.cs at hl
  split at hl
  · obtain ⟨j, _, rfl⟩ := List.mem_map.1 hl
    exact ch_one _
  · obtain rfl := List.mem_singleton.1 hl
    decide
theorem offL_le {L : List (List UInt8)} (h : ∀ k, (L.getD k []).length ≤ 4) : ∀ k, k ≤ L.length → offL L k ≤ 4 * k
  | 0, _ => by unfold offL; simp
  | k + 1, hk => by
    have ih := offL_le h k (by omega)
    have h2 := h k
    rw [offL_succ L k (by omega)]; omega

/-- what stands when n actors are made. -/
structure A3 (I : Inp) (w0 : World) (bC bt bA n : Nat) (bs cc bp bb bcap bm mcap : Nat → Nat) (tx : Nat → Mk) (W : World) : Prop where
  chars : ∀ a, a < n → W.cell? ⟨bC, a, none⟩ = some (.slice (some ⟨bs a, 0, none⟩) (I.tot a) (cc a))
  crest : ∀ a, n ≤ a → a < I.nA → W.cell? ⟨bC, a, none⟩ = some (.slice none 0 0)
  cfrz : ∀ j, W.frozen? ⟨bC, j, none⟩ = false
  chr : ∀ a, a < n → ∀ j, j < I.tot a → W.cell? ⟨bs a, j, none⟩ = some (.string (st ((I.cs a).getD j [])))
  tree : W.heap[bt]? = some (.cells #[.slice none 0 0, .slice none 0 0, .slice none 0 0, .slice none 0 0, .slice none 0 0, .slice none 0 0, .slice none 0 0, .int .u32 0, .int .i32 0, .int .i64 0, .int .i64 0, .int .i64 0, .slice (some ⟨bA, 0, none⟩) I.nA I.nA, .pointer none, .pointer none] 45)
  txt : ∀ a, a < n → TextAt W bA (a * 9 + 2) (bp a) (bb a) (bcap a) (bm a) (mcap a) (tx a)
  ok : ∀ a, a < n → (tx a).Ok
  y : ∀ a, a < n → ∀ j, 0 ≤ (tx a).y j ∧ (tx a).y j ≤ 255
  n' : ∀ a, a < n → (tx a).n = I.tot a
  ch : ∀ a, a < n → ∀ k, k < I.tot a → chb (tx a) k = (I.cs a).getD k []
  arest : ∀ a, n ≤ a → a < I.nA → W.cell? ⟨bA, a * 9 + 2, none⟩ = some (.pointer none) ∧ W.cell? ⟨bA, a * 9 + 3, none⟩ = some (.slice none 0 0) ∧ W.cell? ⟨bA, a * 9 + 4, none⟩ = some (.int .i64 0) ∧ W.cell? ⟨bA, a * 9 + 5, none⟩ = some (.int .u32 0) ∧ W.cell? ⟨bA, a * 9 + 6, none⟩ = some (.bool false)
  afrz : ∀ j, W.frozen? ⟨bA, j, none⟩ = false
  l7 : ∀ a, a < n → (bt < bp a ∧ bp a < W.heap.size) ∧ (bt < bb a ∧ bb a < W.heap.size) ∧ (bt < bm a ∧ bm a < W.heap.size) ∧ bt < bs a
  o1 : bC < bA
  o2 : bA < bt
  o4 : w0.heap.size ≤ bC
  below : Below w0.heap.size w0 W
theorem A3.g3 {I : Inp} {w0 W : World} {bC bt bA : Nat} {bs cc bp bb bcap bm mcap : Nat → Nat} {tx : Nat → Mk} (h : A3 I w0 bC bt bA I.nA bs cc bp bb bcap bm mcap tx W) : G3 I w0 W bC bt bA bs cc bp bb bcap bm mcap tx := by
  have o1 := h.o1
  have o2 := h.o2
  have o4 := h.o4
  have ob := blk_lt h.tree
  exact ⟨h.chars, h.chr, h.tree, h.txt, h.ok, h.y, h.n', h.ch, fun a ha => by
    obtain ⟨k1, k2, k3, k4⟩ := h.l7 a ha
    exact ⟨k1.2, k2.2, k3.2, by omega, by omega, by omega, by omega⟩, ⟨by omega, by omega⟩, ⟨by omega, by omega⟩, by omega, h.below⟩
/-- a new text. -/
structure NewT (I : Inp) (wo : World) (bC bA n g cap bp bb bcap bm mcap : Nat) (t : Mk) (W : World) : Prop where
  os : W.os = wo.os
  tape : W.tape = wo.tape
  output : W.output = wo.output
  size : wo.heap.size ≤ W.heap.size
  blk : ∀ k, k < wo.heap.size → k ≠ bC → k ≠ bA → W.heap[k]? = wo.heap[k]?
  cC : W.cell? ⟨bC, n, none⟩ = some (.slice (some ⟨g, 0, none⟩) (I.tot n) cap)
  cC' : ∀ j, j ≠ n → W.cell? ⟨bC, j, none⟩ = wo.cell? ⟨bC, j, none⟩
  fC : ∀ j, W.frozen? ⟨bC, j, none⟩ = wo.frozen? ⟨bC, j, none⟩
  cA : ∀ j, j < n * 9 + 2 ∨ n * 9 + 6 < j → W.cell? ⟨bA, j, none⟩ = wo.cell? ⟨bA, j, none⟩
  fA : ∀ j, W.frozen? ⟨bA, j, none⟩ = wo.frozen? ⟨bA, j, none⟩
  chr : ∀ j, j < I.tot n → W.cell? ⟨g, j, none⟩ = some (.string (st ((I.cs n).getD j [])))
  txt : TextAt W bA (n * 9 + 2) bp bb bcap bm mcap t
  ok : t.Ok
  y : ∀ j, 0 ≤ t.y j ∧ t.y j ≤ 255
  n' : t.n = I.tot n
  ch : ∀ k, k < I.tot n → chb t k = (I.cs n).getD k []
  l7 : (wo.heap.size ≤ bp ∧ bp < W.heap.size) ∧ (wo.heap.size ≤ bb ∧ bb < W.heap.size) ∧ (wo.heap.size ≤ bm ∧ bm < W.heap.size) ∧ wo.heap.size ≤ g
theorem A3.next {I : Inp} {w0 wo W : World} {bC bt bA n : Nat} {bs cc bp bb bcap bm mcap : Nat → Nat} {tx : Nat → Mk} {g cap xp xb xcap xm xmc : Nat} {t : Mk} (h : A3 I w0 bC bt bA n bs cc bp bb bcap bm mcap tx wo) (q : NewT I wo bC bA n g cap xp xb xcap xm xmc t W) :
    A3 I w0 bC bt bA (n + 1) (fun a => if a = n then g else bs a) (fun a => if a = n then cap else cc a) (fun a => if a = n then xp else bp a) (fun a => if a = n then xb else bb a) (fun a => if a = n then xcap else bcap a) (fun a => if a = n then xm else bm a) (fun a => if a = n then xmc else mcap a) (fun a => if a = n then t else tx a) W := by
  have o1 := h.o1
  have o2 := h.o2
  have o4 := h.o4
  have ob := blk_lt h.tree
  have qs := q.size
  have far : ∀ {k j : Nat} {v : Value}, bt < k → wo.cell? ⟨k, j, none⟩ = some v → W.cell? ⟨k, j, none⟩ = some v := fun {k j v} hk hc => (World.cell?_of_block (w := wo) (q.blk k (World.block_lt_of_cell? wo _ hc) (by omega) (by omega))).trans hc
  refine ⟨fun a ha => ?_, fun a h1 h2 => ?_, fun j => (q.fC j).trans (h.cfrz j), fun a ha j hj => ?_, (q.blk bt ob (by omega) (by omega)).trans h.tree, fun a ha => ?_, fun a ha => ?_, fun a ha => ?_, fun a ha => ?_, fun a ha => ?_, fun a h1 h2 => ?_, fun j => (q.fA j).trans (h.afrz j), fun a ha => ?_, o1, o2, o4, h.below.trans ⟨q.os, q.tape, q.output, q.size, fun k hk => q.blk k (by have := h.below.size; omega) (by omega) (by omega)⟩⟩
  · by_cases e : a = n
    · simp only [if_pos e]; rw [e]; exact q.cC
    · simp only [if_neg e]; rw [q.cC' a e]; exact h.chars a (by omega)
  · rw [q.cC' a (by omega)]; exact h.crest a (by omega) h2
  · by_cases e : a = n
    · simp only [if_pos e]; rw [e] at hj ⊢; exact q.chr j hj
    · simp only [if_neg e]; exact far (h.l7 a (by omega)).2.2.2 (h.chr a (by omega) j hj)
  · by_cases e : a = n
    · simp only [if_pos e]; rw [e]; exact q.txt
    · simp only [if_neg e]
      have ht := h.txt a (by omega)
      obtain ⟨k1, k2, k3, k4⟩ := h.l7 a (by omega)
      exact ⟨(q.cA _ (by omega)).trans ht.ptr, far k1.1 ht.box, fun j hj => far k2.1 (ht.bytes j hj), (q.cA _ (by omega)).trans ht.marks, fun i hi => far k3.1 (ht.cn i hi), fun i hi => far k3.1 (ht.cw i hi), fun i hi => far k3.1 (ht.ca i hi), (q.cA _ (by omega)).trans ht.num, ht.capb, ht.capl⟩
  · by_cases e : a = n
    · simp only [if_pos e]; exact q.ok
    · simp only [if_neg e]; exact h.ok a (by omega)
  · by_cases e : a = n
    · simp only [if_pos e]; exact q.y
    · simp only [if_neg e]; exact h.y a (by omega)
  · by_cases e : a = n
    · simp only [if_pos e]; rw [e]; exact q.n'
    · simp only [if_neg e]; exact h.n' a (by omega)
  · by_cases e : a = n
    · simp only [if_pos e]; rw [e]; exact q.ch
    · simp only [if_neg e]; exact h.ch a (by omega)
  · obtain ⟨k1, k2, k3, k4, k5⟩ := h.arest a (by omega) h2
    exact ⟨(q.cA _ (by omega)).trans k1, (q.cA _ (by omega)).trans k2, (q.cA _ (by omega)).trans k3, (q.cA _ (by omega)).trans k4, (q.cA _ (by omega)).trans k5⟩
  · by_cases e : a = n
    · simp only [if_pos e]
      obtain ⟨k1, k2, k3, k4⟩ := q.l7
      exact ⟨⟨by omega, k1.2⟩, ⟨by omega, k2.2⟩, ⟨by omega, k3.2⟩, by omega⟩
    · simp only [if_neg e]
      obtain ⟨k1, k2, k3, k4⟩ := h.l7 a (by omega)
      exact ⟨⟨k1.1, by omega⟩, ⟨k2.1, by omega⟩, ⟨k3.1, by omega⟩, k4⟩
end Go.Proofs.YbulkdhcgDoor
