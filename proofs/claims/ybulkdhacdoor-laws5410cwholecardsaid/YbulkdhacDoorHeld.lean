/-
  What is held of memory while the law runs.
-/
import Derived.Test.YbulkdhacDoorSet
namespace Go.Proofs.YbulkdhacDoor
open Go.RowKit Floats

def arr (A : Nat → Value) : Array Value := ((List.range 250).map A).toArray
theorem arr_get (A : Nat → Value) (c : Nat) (hc : c < 250) : (arr A)[c]? = some (A c) := by
  unfold arr; simp [hc]

/-- the argument's 250 cells. -/
def yv (b0 : Bool) (F : Nat → Nat) (I : Nat → Int) : Nat → Value := fun c => if c = 0 then .bool b0 else if c < 58 then .float .f64 (F c) else if (c - 58) % 3 = 0 then .int .i64 (I c) else .float .f64 (F c)
/-- the recent slots of a new yardstick. -/
def zv (c : Nat) : Value := if (c - 58) % 3 = 0 then .int .i64 0 else .float .f64 0
def cpB (A : Nat → Value) (k : Nat) : Nat → Value := fun c => if c < 58 + k * 3 then A c else zv c

theorem built39 (b0 : Bool) (F : Nat → Nat) (I : Nat → Int) : Ybad.prog.built 39 [(0, .bool b0), (1, .agg ((List.range' 1 19).map (yv b0 F I)).toArray), (2, .agg ((List.range' 20 19).map (yv b0 F I)).toArray), (3, .agg ((List.range' 39 19).map (yv b0 F I)).toArray)] = some (arr (cpB (yv b0 F I) 0)) := by kernel_rfl

theorem wpList_build {P : Program} {ops : Array Oper} {rest : List Oper} {op : Oper} {a : Act} {w : World} {Q : Exit → Act → World → Prop} (hgd : op.guard = none) (ty : TypeId) (ps : Array (Nat × Operand)) (ho : op.op = .build ty ps)
    (vs : Array (Nat × Value)) (hv : (ps.map fun (i, x) => (i, a.eval x)) = vs) (cs : Array Value) (hb : P.built ty vs.toList = some cs) (h : wpList P ops Q rest (a.put op.dst (.agg cs)) w) : wpList P ops Q (op :: rest) a w :=
  wpList_plain hgd fun _ hK => by
    have hr := run_build (P := P) w ty vs cs hb
    unfold Oper.wp execOp
    simp only [ho, hv, Sem.run_bind, hr, Result.andThen_ok, Sem.run_pure]
    exact hK _ _ h

theorem Yd.new (w : World) (A : Nat → Value) (ty : TypeId) : Yd (w.alloc (.cells (arr A) ty)) w.heap.size A := by
  refine ⟨fun c hc => ?_, fun c => World.frozen?_alloc_at _ _ _ _ rfl⟩
  rw [World.cell?_alloc_at _ _ _ _ rfl]; exact arr_get A c hc
theorem Yd.alloc {w : World} {y : Nat} {A : Nat → Value} (h : Yd w y A) (o : Obj) : Yd (w.alloc o) y A :=
  h.below ((Below.refl _ w).alloc (Nat.le_refl _) o)
theorem Yd.range {w : World} {y : Nat} {A : Nat → Value} (h : Yd w y A) (o n : Nat) (ho : o + n ≤ 250) : w.rangeAt y o ((List.range' o n).map A) := fun j v hv => by
  have hj : j < n := by simpa using (List.getElem?_eq_some_iff.1 hv).1
  simp [hj] at hv
  rw [h.cell (o + j) (by omega), hv]

/-- the blocks of the law: the argument (size), the event (size + 1), the yardstick (size + 2). -/
structure Held (w wr : World) (A : Nat → Value) (ec : List Value) (B : Nat → Value) : Prop where
  y0 : Yd wr w.heap.size A
  y1 : Yd wr (w.heap.size + 1 + 1) B
  ev : wr.rangeAt (w.heap.size + 1) 0 ec
  bel : Below w.heap.size w wr
  pow : Pow wr

theorem Held.congr {w wr : World} {A : Nat → Value} {ec : List Value} {B B' : Nat → Value} (h : Held w wr A ec B) (e : ∀ c, c < 250 → B c = B' c) : Held w wr A ec B' := ⟨h.y0, h.y1.congr e, h.ev, h.bel, h.pow⟩
theorem Held.drewN {w wr : World} {A : Nat → Value} {ec : List Value} {B : Nat → Value} (h : Held w wr A ec B) (n : Nat) : Held w (wr.drewN n) A ec B :=
  ⟨h.y0.drewN n, h.y1.drewN n, h.ev, ⟨h.bel.os, h.bel.tape, h.bel.output, h.bel.size, h.bel.block⟩, h.pow.drewN n⟩
theorem Held.drew {w wr : World} {A : Nat → Value} {ec : List Value} {B : Nat → Value} (h : Held w wr A ec B) : Held w wr.drew A ec B :=
  ⟨⟨h.y0.cell, h.y0.free⟩, ⟨h.y1.cell, h.y1.free⟩, h.ev, h.bel.drew, h.pow.drew⟩
theorem Held.up {w wr w' : World} {A : Nat → Value} {ec : List Value} {B : Nat → Value} (h : Held w wr A ec B) (hu : Below wr.heap.size wr w') : Held w w' A ec B := by
  refine ⟨h.y0.below hu, h.y1.below hu, fun j v hv => ?_, h.bel.trans (hu.mono h.bel.size), ⟨by have := h.pow.size; have := hu.size; omega, fun j hj => ?_⟩⟩
  · have := h.ev j v hv
    rw [hu.cell (World.block_lt_of_cell? wr _ this)]; exact this
  · have := h.pow.cell j hj
    rw [hu.cell (World.block_lt_of_cell? wr _ this)]; exact this
theorem Held.alloc {w wr : World} {A : Nat → Value} {ec : List Value} {B : Nat → Value} (h : Held w wr A ec B) (o : Obj) : Held w (wr.alloc o) A ec B :=
  h.up ((Below.refl _ wr).alloc (Nat.le_refl _) o)
/-- only the yardstick's block has been written, and it is as B' says. -/
theorem Held.grown {w wr w' : World} {A : Nat → Value} {ec : List Value} {B B' : Nat → Value} (h : Held w wr A ec B) (hg : wr.grownBy w' (some (w.heap.size + 1 + 1))) (hy : Yd w' (w.heap.size + 1 + 1) B') : Held w w' A ec B' := by
  have hs : 1 < w.heap.size + 1 + 1 := by omega
  refine ⟨⟨fun c hc => hg.cell (h.y0.cell c hc) (by simp only [ne_eq, Option.some.injEq]; omega), fun c => ?_⟩, hy, fun j v hv => hg.cell (h.ev j v hv) (by simp only [ne_eq, Option.some.injEq]; omega),
    h.bel.grown hg h.bel.size (fun k hk => by injection hk; omega), ⟨Nat.lt_of_lt_of_le h.pow.size hg.size, fun j hj => hg.cell (h.pow.cell j hj) ?_⟩⟩
  · rw [World.frozen?_of_block (w := wr) (hg.block w.heap.size h.y0.lt (by simp only [ne_eq, Option.some.injEq]; omega))]; exact h.y0.free c
  · simp only [ne_eq, Option.some.injEq]; omega
theorem Held.set {w wr : World} {A : Nat → Value} {ec : List Value} {B : Nat → Value} (h : Held w wr A ec B) (c : Nat) (hc : c < 250) (v : Value) : Held w (wr.setCell ⟨w.heap.size + 1 + 1, c, none⟩ v) A ec (upd B c v) :=
  h.grown (grown_set (grown_refl wr _) c v) (h.y1.set c hc v)
theorem cpB_step (A : Nat → Value) (k c : Nat) : upd (upd (upd (cpB A k) (58 + k * 3) (A (58 + k * 3))) (58 + k * 3 + 1) (A (58 + k * 3 + 1))) (58 + k * 3 + 2) (A (58 + k * 3 + 2)) c = cpB A (k + 1) c := by
  unfold upd cpB
  by_cases e2 : c = 58 + k * 3 + 2
  · rw [if_pos e2, if_pos (by omega), e2]
  · rw [if_neg e2]
    by_cases e1 : c = 58 + k * 3 + 1
    · rw [if_pos e1, if_pos (by omega), e1]
    · rw [if_neg e1]
      by_cases e0 : c = 58 + k * 3
      · rw [if_pos e0, if_pos (by omega), e0]
      · rw [if_neg e0]
        by_cases e : c < 58 + k * 3
        · rw [if_pos e, if_pos (by omega)]
        · rw [if_neg e, if_neg (by omega)]
theorem cpB_all (A : Nat → Value) (c : Nat) (hc : c < 250) : cpB A 64 c = A c := by unfold cpB; rw [if_pos (by omega)]
theorem yv_int (b0 : Bool) (F : Nat → Nat) (I : Nat → Int) (k : Nat) : ∃ z, yv b0 F I (58 + k * 3) = .int .i64 z := ⟨I (58 + k * 3), by unfold yv; rw [if_neg (by omega), if_neg (by omega), if_pos (by omega)]⟩
theorem yv_x (b0 : Bool) (F : Nat → Nat) (I : Nat → Int) (k : Nat) : ∃ z, yv b0 F I (58 + k * 3 + 1) = .float .f64 z := ⟨F (58 + k * 3 + 1), by unfold yv; rw [if_neg (by omega), if_neg (by omega), if_neg (by omega)]⟩
theorem yv_t (b0 : Bool) (F : Nat → Nat) (I : Nat → Int) (k : Nat) : ∃ z, yv b0 F I (58 + k * 3 + 2) = .float .f64 z := ⟨F (58 + k * 3 + 2), by unfold yv; rw [if_neg (by omega), if_neg (by omega), if_neg (by omega)]⟩
theorem yv_f (b0 : Bool) (F : Nat → Nat) (I : Nat → Int) (c : Nat) (h0 : 0 < c) (hc : c < 58) : ∃ z, yv b0 F I c = .float .f64 z := ⟨F c, by unfold yv; rw [if_neg (by omega), if_pos hc]⟩

/-- the yardstick behind set(nil). -/
def nilB (A : Nat → Value) : Nat → Value := upd (upd (recN A 64) 0 (.bool true)) 39 (.float .f64 Ln2)
theorem recN_f (A : Nat → Value) (k : Nat) (hk : k < 64) : recN A 64 (58 + k * 3) = .int .i64 (-1) := by unfold recN; rw [if_pos (by omega)]
theorem recN_x (A : Nat → Value) (k : Nat) : recN A 64 (58 + k * 3 + 1) = A (58 + k * 3 + 1) := by unfold recN; rw [if_neg (by omega)]
theorem recN_t (A : Nat → Value) (k : Nat) : recN A 64 (58 + k * 3 + 2) = A (58 + k * 3 + 2) := by unfold recN; rw [if_neg (by omega)]
theorem recN_lo (A : Nat → Value) (c : Nat) (hc : c < 58) : recN A 64 c = A c := by unfold recN; rw [if_neg (by omega)]
theorem nilB_hi (A : Nat → Value) (c : Nat) (hc : 58 ≤ c) : nilB A c = recN A 64 c := by unfold nilB upd; rw [if_neg (by omega), if_neg (by omega)]
theorem nilB_mid (A : Nat → Value) (c : Nat) (h0 : 0 < c) (h1 : c < 58) (h2 : c ≠ 39) : nilB A c = A c := by unfold nilB upd; rw [if_neg h2, if_neg (by omega), recN_lo A c h1]
theorem nilB_39 (A : Nat → Value) : nilB A 39 = .float .f64 Ln2 := by unfold nilB upd; rw [if_pos rfl]
theorem nilB_0 (A : Nat → Value) : nilB A 0 = .bool true := by unfold nilB upd; rw [if_neg (by omega), if_pos rfl]
end Go.Proofs.YbulkdhacDoor
