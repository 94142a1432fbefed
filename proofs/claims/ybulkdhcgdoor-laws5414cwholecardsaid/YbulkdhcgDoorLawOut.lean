/-
  What the runs show: the plain law; what stands when the actors are made.
-/
import Derived.Test.YbulkdhcgDoorLawRuns
namespace Go.Proofs.YbulkdhcgDoor
open Go.RowKit

/-- what stands when the actors are made. -/
structure G3 (I : Inp) (w0 W : World) (bC bt bA : Nat) (bs cc bp bb bcap bm mcap : Nat → Nat) (tx : Nat → Mk) : Prop where
  chars : ∀ a, a < I.nA → W.cell? ⟨bC, a, none⟩ = some (.slice (some ⟨bs a, 0, none⟩) (I.tot a) (cc a))
  chr : ∀ a, a < I.nA → ∀ j, j < I.tot a → W.cell? ⟨bs a, j, none⟩ = some (.string (st ((I.cs a).getD j [])))
  tree : W.heap[bt]? = some (.cells #[.slice none 0 0, .slice none 0 0, .slice none 0 0, .slice none 0 0, .slice none 0 0, .slice none 0 0, .slice none 0 0, .int .u32 0, .int .i32 0, .int .i64 0, .int .i64 0, .int .i64 0, .slice (some ⟨bA, 0, none⟩) I.nA I.nA, .pointer none, .pointer none] 45)
  txt : ∀ a, a < I.nA → TextAt W bA (a * 9 + 2) (bp a) (bb a) (bcap a) (bm a) (mcap a) (tx a)
  ok : ∀ a, a < I.nA → (tx a).Ok
  y : ∀ a, a < I.nA → ∀ j, 0 ≤ (tx a).y j ∧ (tx a).y j ≤ 255
  n : ∀ a, a < I.nA → (tx a).n = I.tot a
  ch : ∀ a, a < I.nA → ∀ k, k < I.tot a → chb (tx a) k = (I.cs a).getD k []
  l7 : ∀ a, a < I.nA → bp a < W.heap.size ∧ bb a < W.heap.size ∧ bm a < W.heap.size ∧ bp a ≠ bt ∧ bb a ≠ bt ∧ bm a ≠ bt ∧ bs a ≠ bt
  lA : bA < W.heap.size ∧ bA ≠ bt
  lC : bC < W.heap.size ∧ bC ≠ bt
  lt : w0.heap.size ≤ bt
  below : Below w0.heap.size w0 W

theorem all_runs {p nL n : Nat} (hnp : n ≤ nL * p) : ∀ d j, j + d = nL + 1 → 1 ≤ j → (Lv.mk nL (cn p n) (fun j k => (j - 1) * p + k + 1)).all d j = List.range' ((j - 1) * p + 1) (n - (j - 1) * p)
  | 0, j, hj, _ => by
    have e : j - 1 = nL := by omega
    rw [e, show n - nL * p = 0 by omega]; rfl
  | d + 1, j, hj, h1 => by
    have ih := all_runs hnp d (j + 1) (by omega) (by omega)
    show (List.range' 0 (cn p n j)).map (fun k => (j - 1) * p + k + 1) ++ (Lv.mk nL (cn p n) (fun j k => (j - 1) * p + k + 1)).all d (j + 1) = _
    rw [ih]
    have e1 : (List.range' 0 (cn p n j)).map (fun k => (j - 1) * p + k + 1) = List.range' ((j - 1) * p + 1) (cn p n j) := by
      rw [List.range'_eq_map_range, List.range'_eq_map_range, List.map_map]
      apply List.map_congr_left
      intro k _
      simp; omega
    rw [e1]
    have e2 : j + 1 - 1 = j := by omega
    rw [e2]
    have e3 : j * p = (j - 1) * p + p := by
      obtain ⟨q, rfl⟩ : ∃ q, j = q + 1 := ⟨j - 1, by omega⟩
      rw [Nat.add_sub_cancel, Nat.succ_mul]
    unfold cn
    by_cases h : n - (j - 1) * p ≤ p
    · rw [Nat.min_eq_right h, show n - j * p = 0 by omega]
      simp
    · rw [Nat.min_eq_left (by omega), e3]
      have e4 : n - (j - 1) * p = p + (n - ((j - 1) * p + p)) := by omega
      rw [e4, show (j - 1) * p + p + 1 = (j - 1) * p + 1 + 1 * p by omega, List.range'_append]
theorem outOf_part {I : Inp} {t : Mk} {D : Nat → Nat → Bool} {i : Nat} (hch : ∀ k, k < I.tot (I.ra i) → chb t k = (I.cs (I.ra i)).getD k []) : outOf t (D (I.ra i)) (List.range' (I.rn i) (I.q i - I.rn i)) = I.part D i (I.q i) := by
  unfold outOf Inp.part
  have h1 := I.rl_le i
  have hq : I.q i ≤ I.rn i + I.rl i := by unfold Inp.q; omega
  have h2 : ∀ k ∈ (List.range' (I.rn i) (I.q i - I.rn i)).filter (fun k => !D (I.ra i) k), chb t k = (I.cs (I.ra i)).getD k [] := fun k hk => by
    have h3 := List.mem_range'_1.1 (List.mem_filter.1 hk).1
    exact hch k (by omega)
  revert h2
  generalize (List.range' (I.rn i) (I.q i - I.rn i)).filter (fun k => !D (I.ra i) k) = l
  intro h2
  induction l with
  | nil => rfl
  | cons x l ih => rw [List.flatMap_cons, List.flatMap_cons, h2 x (List.mem_cons_self ..), ih (fun k hk => h2 k (List.mem_cons_of_mem _ hk))]
theorem out_want (I : Inp) (d : TreeD) (D : Nat → Nat → Bool) (hra : ∀ i, d.ra (i + 1) = I.ra i) (hrn : ∀ i, d.rn (i + 1) = I.rn i) (hrl : ∀ i, d.rl (i + 1) = I.rl i) (hins : d.ins = I.ins) (hS : d.S = D) (hch : ∀ a, a < I.nA → ∀ k, k < I.tot a → chb (d.tx a) k = (I.cs a).getD k []) (n : Nat) : d.out (List.range' 1 n) = I.want D n := by
  unfold TreeD.out Inp.want
  rw [List.range'_eq_map_range, List.flatMap_map]
  congr 1
  funext i
  have e : 1 + i = i + 1 := Nat.add_comm _ _
  show outOf (d.tx (d.ra (1 + i))) (d.S (d.ra (1 + i))) (List.range' (d.rn (1 + i)) (min (d.rn (1 + i) + d.rl (1 + i)) (d.ins (d.ra (1 + i))) - d.rn (1 + i))) = _
  rw [e, hra, hrn, hrl, hins, hS]
  exact outOf_part (hch (I.ra i) (I.ra_lt i))
theorem RunsAt.move {w W : World} {C bt bc c0 g cap n : Nat} {xs : List Value} (h : RunsAt w C bt bc c0 g cap n xs) (h1 : W.heap[bt]? = w.heap[bt]?) (h2 : W.heap[bc]? = w.heap[bc]?) (h3 : W.heap[g]? = w.heap[g]?) (hs : w.heap.size ≤ W.heap.size) : RunsAt W C bt bc c0 g cap n xs :=
  ⟨(World.cell?_of_block (w := w) h1).trans h.c1, (World.cell?_of_block (w := w) h2).trans h.c2, (World.frozen?_of_block (w := w) h2).trans h.f2, own_xfr h.own (fun q hq => by have e : g = q := Option.some.inj hq; rw [← e]; exact h3), h.ne, Nat.lt_of_lt_of_le h.lt hs, h.ge, h.bt, Nat.le_trans h.sz hs⟩
theorem RunsAt.drew {w : World} {C bt bc c0 g cap n : Nat} {xs : List Value} (h : RunsAt w C bt bc c0 g cap n xs) : RunsAt w.drew C bt bc c0 g cap n xs := ⟨h.c1, h.c2, h.f2, h.own, h.ne, h.lt, h.ge, h.bt, h.sz⟩
theorem XFr.drew1 {w W : World} {U : Nat → Prop} (h : XFr w W U) : XFr w W.drew U := ⟨h.os, h.tape, h.output, h.size, h.blk⟩
theorem R5.push {I : Inp} {p nL : Nat} {W : World} {C bt bL bra brn brl bc c0 g cap i : Nat} {wr : World} (o : Obj) (v1 v2 v3 : Value) (h : R5 I p nL W C bt bL bra brn brl bc c0 g cap i wr) : RunsAt ((((wr.setCell ⟨bra, i, none⟩ v1).setCell ⟨brn, i, none⟩ v2).setCell ⟨brl, i, none⟩ v3).alloc o) C bt bc c0 g cap (i + 1) (runL I i) := by
  have o0 := h.o0
  have o1 := h.o1
  have o2 := h.o2
  have o3 := h.o3
  have o4 := h.o4
  have o5 := h.o5
  have b1 := h.runs.ge
  have b2 := h.runs.own.lt g rfl
  have b5 := h.runs.sz
  have b6 := h.runs.lt
  have hS : ∀ (V : World) (b j : Nat) (u : Value) (k : Nat), k ≠ b → (V.setCell ⟨b, j, none⟩ u).heap[k]? = V.heap[k]? := fun V b j u k hk => Below.heap_setCell V ⟨b, j, none⟩ u k hk
  have key : ∀ k, k < wr.heap.size → k ≠ bra → k ≠ brn → k ≠ brl → ((((wr.setCell ⟨bra, i, none⟩ v1).setCell ⟨brn, i, none⟩ v2).setCell ⟨brl, i, none⟩ v3).alloc o).heap[k]? = wr.heap[k]? := fun k hk n1 n2 n3 => by
    rw [Below.heap_alloc _ o k (by rw [set_size, set_size, set_size]; exact hk), hS _ _ _ _ _ n3, hS _ _ _ _ _ n2, hS _ _ _ _ _ n1]
  exact h.runs.move (key bt (by omega) (by omega) (by omega) (by omega)) (key bc b6 (by omega) (by omega) (by omega)) (key g b2.2 (by omega) (by omega) (by omega)) (by rw [World.size_alloc, set_size, set_size, set_size]; omega)
theorem r18_len (a b c : Value) : (r18 a b c).length = 18 := rfl
theorem r18_one (a b c : Int) : ∀ v ∈ r18 (.int .u32 a) (.int .u32 b) (.int .u32 c), v.oneCell' = true := by
  intro v hv
  unfold r18 at hv
  simp only [List.mem_cons, List.not_mem_nil, or_false] at hv
  rcases hv with rfl | rfl | rfl | rfl | rfl | rfl | rfl | rfl | rfl | rfl | rfl | rfl | rfl | rfl | rfl | rfl | rfl | rfl <;> rfl
end Go.Proofs.YbulkdhcgDoor
