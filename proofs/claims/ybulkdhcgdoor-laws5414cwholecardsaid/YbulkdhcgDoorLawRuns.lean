/-
  The runs and the leaves, as plain data in memory.
-/
import Derived.Test.YbulkdhcgDoorLawS57
import Derived.Test.YbulkdhcgDoorPush1
namespace Go.Proofs.YbulkdhcgDoor
open Go.RowKit

theorem info77 : (Ybad.prog.info? 77).map (fun i => (i.size, decide (i.bytes ≤ 4096), i.zero.map (fun z => (z.cells.size, (List.range 64).map (fun k => z.cells[k]?), z.cells[64]?, z.cells[65]?, z.cells[68]?)))) = some (261, true, some (261, List.replicate 64 (some (.int .u32 0)), some (.int .u64 0), some (.int .i32 0), some (.int .u32 0))) := by kernel_rfl
theorem make_leaf (n : Nat) (hn : n ≤ 4096) : ∃ Z : Array Value, (∀ j, j < n → (∀ k, k < 64 → Z[j * 261 + k]? = some (.int .u32 0)) ∧ Z[j * 261 + 64]? = some (.int .u64 0) ∧ Z[j * 261 + 65]? = some (.int .i32 0) ∧ Z[j * 261 + 68]? = some (.int .u32 0)) ∧
    ∀ w : World, (Instr.makeSlice 34 (.int .i64 (n : Int)) (.int .i64 (n : Int))).run Ybad.prog w = .ok (.slice (some ⟨w.heap.size, 0, none⟩) n n) (w.alloc (.cells Z 77)) := by
  obtain ⟨i, hi, hzz⟩ := Option.map_eq_some_iff.1 info77
  simp only [Prod.mk.injEq, decide_eq_true_eq] at hzz
  obtain ⟨h1, h2, h3⟩ := hzz
  obtain ⟨z, hz, h4⟩ := Option.map_eq_some_iff.1 h3
  simp only [Prod.mk.injEq] at h4
  obtain ⟨q1, q2, q3, q4, q5⟩ := h4
  have key : ∀ j k, j < n → k < 261 → (madeCells z.cells (n * 261))[j * 261 + k]? = z.cells[k]? := fun j k hj hk => by
    have hlt : j * 261 + k < n * 261 := by
      have : (j + 1) * 261 ≤ n * 261 := Nat.mul_le_mul_right _ hj
      omega
    have hm : (j * 261 + k) % 261 = k := by omega
    unfold madeCells
    simp [hlt, q1, hm, hk]
  refine ⟨madeCells z.cells (n * 261), fun j hj => ⟨fun k hk => ?_, ?_, ?_, ?_⟩, fun w => ?_⟩
  · rw [key j k hj (by omega)]
    have h5 : ((List.range 64).map (fun k => z.cells[k]?))[k]? = (List.replicate 64 (some (Value.int .u32 0)))[k]? := by rw [q2]
    rw [List.getElem?_map, List.getElem?_range hk, List.getElem?_replicate, if_pos hk] at h5
    exact Option.some.inj h5
  · rw [key j 64 hj (by omega)]; exact q3
  · rw [key j 65 hj (by omega)]; exact q4
  · rw [key j 68 hj (by omega)]; exact q5
  · have hb' : (i.bytes : Int) * (n : Int) ≤ 281474976710656 := by
      have h : i.bytes * n ≤ 4096 * 4096 := Nat.mul_le_mul h2 hn
      have h5 : ((i.bytes * n : Nat) : Int) ≤ 281474976710656 := by omega
      rwa [Int.natCast_mul] at h5
    have := run_make (P := Ybad.prog) w 34 77 i z Ybad.underlying34 hi hz .i64 .i64 n n (by omega) (Int.le_refl _) hb' (by omega)
    simp only [Int.toNat_natCast, h1] at this
    exact this

theorem set_size (W : World) (a : Addr) (v : Value) : (W.setCell a v).heap.size = W.heap.size := by show (W.heap.modify _ _).size = _; rw [Array.size_modify]
/-- a row of numbers, filled below i. -/
structure RR (n i : Nat) (f : Nat → Nat) (b : Nat) (w : World) : Prop where
  cell : ∀ k, k < n → w.cell? ⟨b, k, none⟩ = some (.int .u32 ((if k < i then f k else 0 : Nat) : Int))
  frz : ∀ k, w.frozen? ⟨b, k, none⟩ = false
  lt : b < w.heap.size
theorem RR.move {n i : Nat} {f : Nat → Nat} {b : Nat} {w W : World} (h : RR n i f b w) (hb : W.heap[b]? = w.heap[b]?) (hs : w.heap.size ≤ W.heap.size) : RR n i f b W :=
  ⟨fun k hk => (World.cell?_of_block (w := w) hb).trans (h.cell k hk), fun k => (World.frozen?_of_block (w := w) hb).trans (h.frz k), Nat.lt_of_lt_of_le h.lt hs⟩
theorem RR.put {n i : Nat} {f : Nat → Nat} {b : Nat} {w : World} (h : RR n i f b w) (hi : i < n) {z : Nat} (hz : z = f i) : RR n (i + 1) f b (w.setCell ⟨b, i, none⟩ (.int .u32 (z : Nat))) := by
  refine ⟨fun k hk => ?_, fun k => by rw [World.frozen?_setCell]; exact h.frz k, by show b < (w.heap.modify _ _).size; rw [Array.size_modify]; exact h.lt⟩
  by_cases e : k = i
  · rw [e, World.cell?_setCell_same _ _ _ (h.cell i hi), if_pos (by omega), hz]
  · rw [World.cell?_setCell_other _ _ _ _ (fun e2 => e (congrArg Addr.off e2).symm), h.cell k hk]
    by_cases e2 : k < i
    · rw [if_pos e2, if_pos (by omega)]
    · rw [if_neg e2, if_neg (by omega)]
/-- how many of the first i runs lie in leaf j. -/
def cn (p i j : Nat) : Nat := min p (i - (j - 1) * p)
theorem cn_here {p i : Nat} (hp : 1 ≤ p) : cn p i (i / p + 1) = i % p := by
  have h1 := Nat.div_add_mod i p
  have h2 := Nat.mod_lt i (y := p) (by omega)
  unfold cn
  rw [Nat.add_sub_cancel, Nat.mul_comm (i / p) p]; omega
theorem cn_next {p i : Nat} (hp : 1 ≤ p) : cn p (i + 1) (i / p + 1) = i % p + 1 := by
  have h1 := Nat.div_add_mod i p
  have h2 := Nat.mod_lt i (y := p) (by omega)
  unfold cn
  rw [Nat.add_sub_cancel, Nat.mul_comm (i / p) p]; omega
theorem cn_far {p i j : Nat} (hp : 1 ≤ p) (hj1 : 1 ≤ j) (hj : j ≠ i / p + 1) : cn p (i + 1) j = cn p i j := by
  have h1 := Nat.div_add_mod i p
  have h2 := Nat.mod_lt i (y := p) (by omega)
  unfold cn
  rcases Nat.lt_or_gt_of_ne hj with h | h
  · have h3 : (j - 1) * p + p ≤ p * (i / p) := by
      rw [← Nat.succ_mul, Nat.mul_comm p]; exact Nat.mul_le_mul_right _ (by omega)
    omega
  · have h3 : p * (i / p) + p ≤ (j - 1) * p := by
      rw [← Nat.mul_succ, Nat.mul_comm p]; exact Nat.mul_le_mul_right _ (by omega)
    omega
/-- the leaves, the first i runs laid. -/
structure LL (p nL i bL : Nat) (w : World) : Prop where
  num : ∀ j, 1 ≤ j → j ≤ nL → w.cell? ⟨bL, j * 261 + 65, none⟩ = some (.int .i32 (cn p i j : Nat))
  run : ∀ j, 1 ≤ j → j ≤ nL → ∀ k, k < 64 → w.cell? ⟨bL, j * 261 + k, none⟩ = some (.int .u32 ((if k < cn p i j then (j - 1) * p + k + 1 else 0 : Nat) : Int))
  live : ∀ j, 1 ≤ j → j ≤ nL → w.cell? ⟨bL, j * 261 + 64, none⟩ = some (.int .u64 0)
  next : ∀ j, 1 ≤ j → j ≤ nL → w.cell? ⟨bL, j * 261 + 68, none⟩ = some (.int .u32 0)
  frz : ∀ q, w.frozen? ⟨bL, q, none⟩ = false
  lt : bL < w.heap.size
theorem LL.move {p nL i bL : Nat} {w W : World} (h : LL p nL i bL w) (hb : W.heap[bL]? = w.heap[bL]?) (hs : w.heap.size ≤ W.heap.size) : LL p nL i bL W :=
  ⟨fun j a b => (World.cell?_of_block (w := w) hb).trans (h.num j a b), fun j a b k hk => (World.cell?_of_block (w := w) hb).trans (h.run j a b k hk), fun j a b => (World.cell?_of_block (w := w) hb).trans (h.live j a b), fun j a b => (World.cell?_of_block (w := w) hb).trans (h.next j a b), fun q => (World.frozen?_of_block (w := w) hb).trans (h.frz q), Nat.lt_of_lt_of_le h.lt hs⟩
theorem LL.put {p nL i bL : Nat} {w : World} (h : LL p nL i bL w) (hp : 1 ≤ p) (hp2 : p ≤ 64) (hx : i / p + 1 ≤ nL) : LL p nL (i + 1) bL ((w.setCell ⟨bL, (i / p + 1) * 261 + i % p, none⟩ (.int .u32 ((i + 1 : Nat) : Int))).setCell ⟨bL, (i / p + 1) * 261 + 65, none⟩ (.int .i32 ((i % p + 1 : Nat) : Int))) := by
  have hm := Nat.mod_lt i (y := p) (by omega)
  have hdm := Nat.div_add_mod i p
  have hne : ∀ q, q ≠ (i / p + 1) * 261 + i % p → q ≠ (i / p + 1) * 261 + 65 → ((w.setCell ⟨bL, (i / p + 1) * 261 + i % p, none⟩ (.int .u32 ((i + 1 : Nat) : Int))).setCell ⟨bL, (i / p + 1) * 261 + 65, none⟩ (.int .i32 ((i % p + 1 : Nat) : Int))).cell? ⟨bL, q, none⟩ = w.cell? ⟨bL, q, none⟩ := fun q h1 h2 =>
    (World.cell?_setCell_other _ _ _ _ (fun e => h2 (congrArg Addr.off e).symm)).trans (World.cell?_setCell_other _ _ _ _ (fun e => h1 (congrArg Addr.off e).symm))
  refine ⟨fun j a b => ?_, fun j a b k hk => ?_, fun j a b => by rw [hne _ (by omega) (by omega)]; exact h.live j a b, fun j a b => by rw [hne _ (by omega) (by omega)]; exact h.next j a b, fun q => by rw [World.frozen?_setCell, World.frozen?_setCell]; exact h.frz q, ?_⟩
  · by_cases e : j = i / p + 1
    · rw [e, cn_next hp, World.cell?_setCell_same _ _ _ ((World.cell?_setCell_other _ _ _ _ (fun e => by have := congrArg Addr.off e; simp at this; omega)).trans (h.num _ (by omega) hx))]
    · rw [hne _ (by omega) (by omega), cn_far hp a e]; exact h.num j a b
  · by_cases e : j = i / p + 1
    · by_cases ek : k = i % p
      · rw [e, ek, World.cell?_setCell_other _ _ _ _ (fun e => by have := congrArg Addr.off e; simp at this; omega), World.cell?_setCell_same _ _ _ (h.run (i / p + 1) (by omega) hx (i % p) (by omega)), cn_next hp, if_pos (by omega), Nat.add_sub_cancel, Nat.mul_comm (i / p) p, hdm]
      · rw [hne _ (by omega) (by omega), h.run j a b k hk, e, cn_next hp, cn_here hp]
        by_cases e3 : k < i % p
        · rw [if_pos e3, if_pos (by omega)]
        · rw [if_neg e3, if_neg (by omega)]
    · rw [hne _ (by omega) (by omega), cn_far hp a e]; exact h.run j a b k hk
  · rw [set_size, set_size]; exact h.lt
/-- the cells of the first i runs, and of the empty one ahead. -/
def runL (I : Inp) (i : Nat) : List Value := r18 (.int .u32 0) (.int .u32 0) (.int .u32 0) ++ (List.range i).flatMap fun k => r18 (.int .u32 (I.ra k : Nat)) (.int .u32 (I.rn k : Nat)) (.int .u32 (I.rl k : Nat))
theorem runL_succ (I : Inp) (i : Nat) : runL I (i + 1) = runL I i ++ r18 (.int .u32 (I.ra i : Nat)) (.int .u32 (I.rn i : Nat)) (.int .u32 (I.rl i : Nat)) := by
  unfold runL; rw [List.range_succ, List.flatMap_append, ← List.append_assoc]; simp
theorem runL_len (I : Inp) : ∀ i, (runL I i).length = (i + 1) * 18
  | 0 => by simp [runL, r18]
  | i + 1 => by rw [runL_succ, List.length_append, runL_len I i]; show _ + 18 = _; omega
theorem runL_pre (I : Inp) (i : Nat) : ∀ e, ∃ m, runL I (i + e) = runL I i ++ m
  | 0 => ⟨[], by simp⟩
  | e + 1 => by obtain ⟨m, hm⟩ := runL_pre I i e; exact ⟨m ++ _, by rw [← Nat.add_assoc, runL_succ, hm, List.append_assoc]⟩
theorem runL_at (I : Inp) {i n : Nat} (hi : i < n) (q : Nat) (hq : q < 18) : (runL I n)[(i + 1) * 18 + q]? = (r18 (.int .u32 (I.ra i : Nat)) (.int .u32 (I.rn i : Nat)) (.int .u32 (I.rl i : Nat)))[q]? := by
  obtain ⟨m, hm⟩ := runL_pre I (i + 1) (n - (i + 1))
  rw [show i + 1 + (n - (i + 1)) = n by omega] at hm
  rw [hm, runL_succ, List.append_assoc, List.getElem?_append_right (by rw [runL_len]; omega), runL_len, show (i + 1) * 18 + q - (i + 1) * 18 = q by omega, List.getElem?_append_left (by show q < 18; exact hq)]
/-- what is held in the loop over the runs. -/
structure R5 (I : Inp) (p nL : Nat) (W : World) (C bt bL bra brn brl bc c0 g cap i : Nat) (wr : World) : Prop where
  runs : RunsAt wr C bt bc c0 g cap (i + 1) (runL I i)
  ra : RR I.n1 i I.ra bra wr
  rn : RR I.n1 i I.rn brn wr
  rl : RR I.n1 i I.rl brl wr
  lv : LL p nL i bL wr
  fr : XFr W wr (fun k => k = bt)
  bts : ∀ j, j ≠ 0 → wr.cell? ⟨bt, j, none⟩ = W.cell? ⟨bt, j, none⟩
  frz : ∀ j, wr.frozen? ⟨bt, j, none⟩ = W.frozen? ⟨bt, j, none⟩
  o0 : bt < W.heap.size
  o1 : W.heap.size ≤ bL
  o2 : bL < bra
  o3 : bra < brn
  o4 : brn < brl
  o5 : brl < C
theorem XFr.blk2 {w W : World} {U : Nat → Prop} (h : XFr w W U) {k : Nat} (hk : k < w.heap.size) (hu : ¬ U k) : W.heap[k]? = w.heap[k]? := h.blk k hk hu
/-- a round: the box, the three rows, the push, the leaf. -/
theorem R5.step {I : Inp} {p nL : Nat} {W : World} {C bt bL bra brn brl bc c0 g cap i : Nat} {wr w' : World} {o : Obj} {za zn zl : Nat} {g' cap' : Nat} (h : R5 I p nL W C bt bL bra brn brl bc c0 g cap i wr) (hi : i < I.n1) (hp : 1 ≤ p) (hp2 : p ≤ 64) (hx : i / p + 1 ≤ nL) (hza : za = I.ra i) (hzn : zn = I.rn i) (hzl : zl = I.rl i)
    (hpr : RunsAt w' C bt bc c0 g' cap' (i + 1 + 1) (runL I i ++ r18 (.int .u32 (za : Nat)) (.int .u32 (zn : Nat)) (.int .u32 (zl : Nat)))) (hpx : XFr ((((wr.setCell ⟨bra, i, none⟩ (.int .u32 (za : Nat))).setCell ⟨brn, i, none⟩ (.int .u32 (zn : Nat))).setCell ⟨brl, i, none⟩ (.int .u32 (zl : Nat))).alloc o) w' (fun k => k = bc ∨ k = g)) :
    R5 I p nL W C bt bL bra brn brl bc c0 g' cap' (i + 1) ((w'.setCell ⟨bL, (i / p + 1) * 261 + i % p, none⟩ (.int .u32 ((i + 1 : Nat) : Int))).setCell ⟨bL, (i / p + 1) * 261 + 65, none⟩ (.int .i32 ((i % p + 1 : Nat) : Int))) := by
  have o1 := h.o1
  have o2 := h.o2
  have o3 := h.o3
  have o4 := h.o4
  have o5 := h.o5
  have b1 := h.runs.ge
  have b2 := (h.runs.own.lt g rfl).1
  have b3 := h.runs.bt
  have b5 := h.runs.sz
  have o0 := h.o0
  have hsz : ((((wr.setCell ⟨bra, i, none⟩ (.int .u32 (za : Nat))).setCell ⟨brn, i, none⟩ (.int .u32 (zn : Nat))).setCell ⟨brl, i, none⟩ (.int .u32 (zl : Nat))).alloc o).heap.size = wr.heap.size + 1 := by rw [World.size_alloc, set_size, set_size, set_size]
  have hsz0 : (((wr.setCell ⟨bra, i, none⟩ (.int .u32 (za : Nat))).setCell ⟨brn, i, none⟩ (.int .u32 (zn : Nat))).setCell ⟨brl, i, none⟩ (.int .u32 (zl : Nat))).heap.size = wr.heap.size := by rw [set_size, set_size, set_size]
  have hS : ∀ (V : World) (b j : Nat) (u : Value) (k : Nat), k ≠ b → (V.setCell ⟨b, j, none⟩ u).heap[k]? = V.heap[k]? := fun V b j u k hk => Below.heap_setCell V ⟨b, j, none⟩ u k hk
  have hP : ∀ k, k < C → w'.heap[k]? = (((wr.setCell ⟨bra, i, none⟩ (.int .u32 (za : Nat))).setCell ⟨brn, i, none⟩ (.int .u32 (zn : Nat))).setCell ⟨brl, i, none⟩ (.int .u32 (zl : Nat))).heap[k]? := fun k hk => (hpx.blk k (by omega) (by omega)).trans (Below.heap_alloc _ o k (by rw [hsz0]; omega))
  have hps := hpx.size
  rw [hsz] at hps
  have hbt1 : w'.heap[bt]? = wr.heap[bt]? := by rw [hP _ b3, hS _ _ _ _ _ (by omega), hS _ _ _ _ _ (by omega), hS _ _ _ _ _ (by omega)]
  have hbt2 : ((w'.setCell ⟨bL, (i / p + 1) * 261 + i % p, none⟩ (.int .u32 ((i + 1 : Nat) : Int))).setCell ⟨bL, (i / p + 1) * 261 + 65, none⟩ (.int .i32 ((i % p + 1 : Nat) : Int))).heap[bt]? = wr.heap[bt]? := by
    rw [hS _ _ _ _ _ (by omega), hS _ _ _ _ _ (by omega), hbt1]
  have fin : ∀ k, k ≠ bL → ((w'.setCell ⟨bL, (i / p + 1) * 261 + i % p, none⟩ (.int .u32 ((i + 1 : Nat) : Int))).setCell ⟨bL, (i / p + 1) * 261 + 65, none⟩ (.int .i32 ((i % p + 1 : Nat) : Int))).heap[k]? = w'.heap[k]? := fun k hk => by rw [hS _ _ _ _ _ hk, hS _ _ _ _ _ hk]
  have fins : ((w'.setCell ⟨bL, (i / p + 1) * 261 + i % p, none⟩ (.int .u32 ((i + 1 : Nat) : Int))).setCell ⟨bL, (i / p + 1) * 261 + 65, none⟩ (.int .i32 ((i % p + 1 : Nat) : Int))).heap.size = w'.heap.size := by rw [set_size, set_size]
  have own1 := hpr.own.lt g' rfl
  refine ⟨⟨(World.cell?_of_block (w := w') (fin bt (by omega))).trans hpr.c1, (World.cell?_of_block (w := w') (fin bc (by omega))).trans hpr.c2, (World.frozen?_of_block (w := w') (fin bc (by omega))).trans hpr.f2, ?_, hpr.ne, by rw [fins]; exact hpr.lt, hpr.ge, hpr.bt, by rw [fins]; exact hpr.sz⟩, ?_, ?_, ?_, ?_, ?_, fun j hj => ?_, fun j => ?_, o0, o1, o2, o3, o4, o5⟩
  · rw [runL_succ, ← hza, ← hzn, ← hzl]
    exact own_xfr hpr.own (fun q hq => fin q (by have e : g' = q := Option.some.inj hq; omega))
  · have h1 := h.ra.put hi hza
    refine h1.move ?_ ?_
    · rw [fin bra (by omega), hP bra (by omega), hS _ _ _ _ _ (by omega), hS _ _ _ _ _ (by omega)]
    · rw [fins, set_size]; omega
  · have h1 := ((h.rn.move (W := wr.setCell ⟨bra, i, none⟩ (.int .u32 (za : Nat))) (by rw [hS _ _ _ _ _ (by omega)]) (by rw [set_size]; omega)).put hi hzn)
    refine h1.move ?_ ?_
    · rw [fin brn (by omega), hP brn (by omega), hS _ _ _ _ _ (by omega)]
    · rw [fins, set_size, set_size]; omega
  · have h1 := ((h.rl.move (W := (wr.setCell ⟨bra, i, none⟩ (.int .u32 (za : Nat))).setCell ⟨brn, i, none⟩ (.int .u32 (zn : Nat))) (by rw [hS _ _ _ _ _ (by omega), hS _ _ _ _ _ (by omega)]) (by rw [set_size, set_size]; omega)).put hi hzl)
    refine h1.move ?_ ?_
    · rw [fin brl (by omega), hP brl (by omega)]
    · rw [fins, hsz0]; omega
  · have h1 : LL p nL i bL w' := h.lv.move (by rw [hP bL (by omega), hS _ _ _ _ _ (by omega), hS _ _ _ _ _ (by omega), hS _ _ _ _ _ (by omega)]) (by omega)
    exact h1.put hp hp2 hx
  · have q1 : XFr W ((((wr.setCell ⟨bra, i, none⟩ (.int .u32 (za : Nat))).setCell ⟨brn, i, none⟩ (.int .u32 (zn : Nat))).setCell ⟨brl, i, none⟩ (.int .u32 (zl : Nat))).alloc o) (fun k => k = bt) := (((h.fr.set bra i _ (Or.inr (by omega))).set brn i _ (Or.inr (by omega))).set brl i _ (Or.inr (by omega))).alloc o
    have q2 := q1.trans hpx (fun k hk => Or.inr (by omega))
    exact (q2.set bL _ _ (Or.inr (by omega))).set bL _ _ (Or.inr (by omega))
  · exact (World.cell?_of_block (w := wr) hbt2).trans (h.bts j hj)
  · exact (World.frozen?_of_block (w := wr) hbt2).trans (h.frz j)
end Go.Proofs.YbulkdhcgDoor
