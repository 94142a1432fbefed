/-
  A range over a function whose rounds always go on, at the wide fence: the iterator may itself range over an iterator (it may turn records of its own).
-/
import Derived.RangeFuncNested
import Derived.RangeFuncBound
import Derived.RangeFuncCalls
import Derived.RangeFuncLeaves
import Derived.Deep.Draws
namespace Go.Proofs.YbulkdhcgDoor
open Go.RowKit

/-- the blocks of which K speaks lie as they lay. -/
structure Kept (K : Nat → Obj → Prop) (A B : World) : Prop where
  os : B.os = A.os
  tape : B.tape = A.tape
  output : B.output = A.output
  size : A.heap.size ≤ B.heap.size
  block : ∀ (b : Nat) (o : Obj), A.heap[b]? = some o → K b o → B.heap[b]? = some o
/-- K speaks of block b. -/
def KAt (K : Nat → Obj → Prop) (A : World) (b : Nat) : Prop := ∀ o : Obj, A.heap[b]? = some o → K b o

theorem Kept.refl (K : Nat → Obj → Prop) (A : World) : Kept K A A := ⟨rfl, rfl, rfl, Nat.le_refl _, fun _ _ h _ => h⟩
theorem Kept.trans {K : Nat → Obj → Prop} {A B C : World} (h : Kept K A B) (k : Kept K B C) : Kept K A C :=
  ⟨k.os.trans h.os, k.tape.trans h.tape, k.output.trans h.output, Nat.le_trans h.size k.size, fun b o hb hk => k.block b o (h.block b o hb hk) hk⟩
theorem Kept.mono {K K' : Nat → Obj → Prop} {A B : World} (h : Kept K A B) (hk : ∀ b o, A.heap[b]? = some o → K' b o → K b o) : Kept K' A B :=
  ⟨h.os, h.tape, h.output, h.size, fun b o hb hl => h.block b o hb (hk b o hb hl)⟩
theorem Kept.alloc (K : Nat → Obj → Prop) (A : World) (o : Obj) : Kept K A (A.alloc o) :=
  ⟨rfl, rfl, rfl, by simp, fun b o' hb _ => (Below.heap_alloc A o b (Array.getElem?_eq_some_iff.1 hb).1).trans hb⟩
theorem Kept.putObj {K : Nat → Obj → Prop} (A : World) (l : Nat) (o : Obj) (h : ∀ o', A.heap[l]? = some o' → ¬ K l o') : Kept K A (A.putObj l o) :=
  ⟨rfl, rfl, rfl, by simp, fun b o' hb hk => by
    by_cases e : b = l
    · subst e; exact absurd hk (h o' hb)
    · exact (World.putObj_heap_other e).trans hb⟩
theorem Kept.setCell {K : Nat → Obj → Prop} (A : World) (p : Addr) (v : Value) (h : ∀ o', A.heap[p.block]? = some o' → ¬ K p.block o') : Kept K A (A.setCell p v) :=
  ⟨rfl, rfl, rfl, by show A.heap.size ≤ (A.heap.modify _ _).size; rw [Array.size_modify]; exact Nat.le_refl _, fun b o' hb hk => by
    by_cases e : b = p.block
    · subst e; exact absurd hk (h o' hb)
    · exact (Below.heap_setCell A p v b e).trans hb⟩
theorem Kept.drew {K : Nat → Obj → Prop} {A B : World} (h : Kept K A B) : Kept K A B.drew := ⟨h.os, h.tape, h.output, h.size, h.block⟩
theorem Kept.drewN {K : Nat → Obj → Prop} {A B : World} (h : Kept K A B) (n : Nat) : Kept K A (B.drewN n) := ⟨h.os, h.tape, h.output, h.size, h.block⟩
theorem Kept.cell {K : Nat → Obj → Prop} {A B : World} (h : Kept K A B) {p : Addr} {v : Value} (hk : KAt K A p.block) (hc : A.cell? p = some v) : B.cell? p = some v := by
  obtain ⟨o, ho⟩ : ∃ o, A.heap[p.block]? = some o := ⟨_, Array.getElem?_eq_getElem (World.block_lt_of_cell? A p hc)⟩
  exact (World.cell?_of_block (w := A) ((h.block _ o ho (hk o ho)).trans ho.symm)).trans hc
theorem Kept.grown {K : Nat → Obj → Prop} {A B : World} {row : Option Nat} (h : A.grownBy B row) (hr : ∀ r, row = some r → ∀ o, A.heap[r]? = some o → ¬ K r o) : Kept K A B :=
  ⟨h.os, h.tape, h.output, h.size, fun b o hb hk => (h.block b (Array.getElem?_eq_some_iff.1 hb).1 (fun e => hr b e.symm o hb hk)).trans hb⟩

/-- what the rounds and the iterator owe each other: every round goes on. -/
def SeqG {α : Type} (P : Program) (g : Nat) (lb : Array Value) (encs : α → Array Value) (K : Nat → Obj → Prop) (xs : List α) (l B : Nat) (W : World) : Prop :=
  ∀ (J : List α → World → Prop), OwnFrom B J →
    (∀ pre x V, J pre V → (pre ++ [x]) <+: xs → YieldAt Fence.wide 0 P l (encs x) V fun e V' => e = .returned (.bool true) ∧ J (pre ++ [x]) V' ∧ Kept K V V' ∧ KeepsFrom B V V') →
    J [] W → CallsIn Fence.wide 0 P g (#[.func (.yield l) #[] #[]] ++ lb) W fun e W' => (∃ v, e = .returned v) ∧ J xs W'

/-- how a round's body ends. -/
def goOn {α : Type} (B : Nat) (K : Nat → Obj → Prop) (I : List α → World → Prop) (xs : List α) (W : World) : Exit → Act → World → Prop
  | .normal, _, W' => KeepsFrom B W W' ∧ Kept K W W' ∧ I xs W'
  | _, _, _ => False

theorem range_law {α : Type} {P : Program} {g : Operand} {ps : Array Tmp} {assign body : Code} {Q : Exit → Act → World → Prop} {a : Act} {w : World} {gf : Nat} {lb : Array Value}
    (hg : a.eval g = .func (.func gf) #[] lb) (eg : ∀ args w, (callFunc gf args).run P w = .ok (.enter gf args) w)
    {encs : α → Array Value} {K : Nat → Obj → Prop} {xs : List α}
    (hseq : ∀ r : Loop, SeqG P gf lb encs K xs (w.heap.size + 1) (w.heap.size + 1 + 1) ((w.alloc (.deferred (some []))).alloc (.loop r)))
    (hK : ∀ b o, w.heap.size ≤ b → K b o → o.isCells = true) (hps : ∀ x, (encs x).size = ps.size)
    (I : List α → World → Prop) (hI : OwnFrom w.heap.size I) (h0 : I [] w) (a₁ : α → Act)
    (hassign : ∀ (l : Nat) (x : α) (W : World) (K : Act → World → Prop), K (a₁ x) W →
      assign.wpIn (Fence.wide.inRound l) 0 P (Exit.then K (fun _ _ _ => False)) { tmps := (ps.zip (encs x)).foldl (fun t (p, v) => t.setIfInBounds p v) a.tmps, defers := [] } W)
    (hbody : ∀ (l : Nat) (pre : List α) (x : α) (W : World), w.heap.size ≤ l → I pre W → (pre ++ [x]) <+: xs → body.wpIn (Fence.wide.inRound l) 0 P (goOn w.heap.size K I (pre ++ [x]) W) (a₁ x) W)
    (hdone : ∀ W : World, I xs W → W.heap[w.heap.size]? = some (.deferred (some [])) → Q .normal { a with defers := { target := .collected w.heap.size, args := #[] } :: a.defers } W) :
    (Code.rangeFunc g ps assign body).wpIn Fence.wide 0 P Q a w := by
  refine wpIn_rangeFunc ?_
  intro fn hfn
  obtain ⟨rec, hrec⟩ : ∃ rec : LoopState → Loop, rec = fun st => { state := st, pending := none, fn, tmps := a.tmps, params := ps, assign, body, defers := w.heap.size } := ⟨_, rfl⟩
  obtain ⟨W1, hW1⟩ : ∃ W1, (w.alloc (.deferred (some []))).alloc (.loop (rec .ready)) = W1 := ⟨_, rfl⟩
  have hL1 : W1.heap[w.heap.size + 1]? = some (.loop (rec .ready)) := by
    rw [← hW1]; have := World.alloc_heap_new (w.alloc (.deferred (some []))) (.loop (rec .ready)); rwa [World.size_alloc] at this
  have hK1 : W1.heap[w.heap.size]? = some (.deferred (some [])) := by
    rw [← hW1]; exact (Below.heap_alloc _ _ _ (by simp)).trans (World.alloc_heap_new w _)
  have hI1 : I [] W1 := by rw [← hW1]; exact hI.alloc _ (hI.alloc _ h0)
  refine ⟨w.heap.size + 1, [{ target := .collected w.heap.size, args := #[] }], W1, { target := .fn (.func gf) lb, args := #[.func (.yield (w.heap.size + 1)) #[] #[]] }, W1, gf,
    #[.func (.yield (w.heap.size + 1)) #[] #[]] ++ lb, W1, ?_, ?_, ?_, ?_, (fun h => by cases h), ?_⟩
  · rw [← hW1, hrec]; exact run_enterLoop_outer _ _ _ _ _
  · simp only [resolve, hg]
    simp [go_sem]
  · intro f' _; trivial
  · simp [invoke, go_sem, eg]
  · have hs := hseq (rec .ready)
    rw [hW1] at hs
    refine (hs (fun pre W => I pre W ∧ W.heap[w.heap.size + 1]? = some (.loop (rec .ready)) ∧ W.heap[w.heap.size]? = some (.deferred (some [])))
      (fun s A B row hs hg' hr => ⟨hI s A B row hs.1 hg' (fun r e => ⟨by have := (hr r e).1; omega, (hr r e).2⟩),
        (hg'.block _ (Array.getElem?_eq_some_iff.1 hs.2.1).1 (fun e => by have := (hr _ e.symm).1; omega)).trans hs.2.1,
        (hg'.block _ (Array.getElem?_eq_some_iff.1 hs.2.2).1 (fun e => by have := (hr _ e.symm).1; omega)).trans hs.2.2⟩)
      ?_ ⟨hI1, hL1, hK1⟩).mono ?_
    · rintro pre x W ⟨hi, hl, hk⟩ hpre
      have hlt : w.heap.size + 1 < W.heap.size := (Array.getElem?_eq_some_iff.1 hl).1
      have hy := run_yield (P := P) (args := encs x) hl (by rw [hrec]; exact hps x)
      rw [hrec] at hy
      refine ⟨fn, _, assign, body, hy, roundIn_of_wpIn hfn (hassign _ x W _ ?_)⟩
      clear hy
      refine ⟨_, run_beginRound hl (by rw [hrec]), ?_⟩
      have hl2 : (W.putObj (w.heap.size + 1) (.loop { rec .ready with state := .busy })).heap[w.heap.size + 1]? = some (.loop { rec .ready with state := .busy }) := World.putObj_heap_same hlt
      have hk2 : (W.putObj (w.heap.size + 1) (.loop { rec .ready with state := .busy })).heap[w.heap.size]? = some (.deferred (some [])) := (World.putObj_heap_other (by omega)).trans hk
      refine wpIn_mono (hbody _ pre x _ (by omega) (hI.putObj _ hi (by omega) hl rfl) hpre) ?_
      rintro e a3 W3 hp
      cases e with
      | normal =>
        obtain ⟨hk3, hkp3, hi3⟩ := hp
        have hl3 := hk3.same _ _ (by omega) hl2 rfl
        have hend := run_endRound (P := P) none hl3
        refine ⟨_, _, hend, rfl, ⟨hI.putObj _ hi3 (by omega) hl3 rfl, ?_, ?_⟩, ?_, ?_⟩
        · refine (World.putObj_heap_same (Array.getElem?_eq_some_iff.1 hl3).1).trans ?_
          rw [hrec]; rfl
        · exact (World.putObj_heap_other (by omega)).trans (hk3.same _ _ (Nat.le_refl _) hk2 rfl)
        · exact ((Kept.putObj W _ _ (fun o' h' hk' => by rw [hl] at h'; cases h'; cases hK _ _ (by omega) hk')).trans hkp3).trans (Kept.putObj W3 _ _ (fun o' h' hk' => by rw [hl3] at h'; cases h'; cases hK _ _ (by omega) hk'))
        · refine ⟨by have := hk3.size; simp at this ⊢; omega, fun k o hB hk0 ho => ?_⟩
          refine (World.putObj_heap_other (by omega)).trans (hk3.same k o (by omega) ?_ ho)
          exact (World.putObj_heap_other (by omega)).trans hk0
      | ret => exact hp.elim
      | exit id => exact hp.elim
      | goto t => exact hp.elim
      | panic ch => exact hp.elim
      | outgrown => exact hp.elim
    · rintro e W2 ⟨⟨v, rfl⟩, hi, hl, hk⟩
      have he : (Instr.endLoop (w.heap.size + 1)).run P W2 = .ok none (W2.putObj (w.heap.size + 1) (.loop { rec .ready with state := .exhausted })) := by
        have := run_endLoop (P := P) hl (by rw [hrec]; simp)
        rw [hrec] at this ⊢
        exact this
      exact ⟨none, _, he, hdone _ (hI.putObj _ hi (by omega) hl rfl) ((World.putObj_heap_other (by omega)).trans hk)⟩
end Go.Proofs.YbulkdhcgDoor
