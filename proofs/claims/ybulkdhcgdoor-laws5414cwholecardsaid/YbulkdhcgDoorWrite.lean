/-
  writeChars: what it holds.
-/
import Derived.Test.YbulkdhcgDoorChars
import Derived.Test.YbulkdhcgDoorBits
import Derived.Test.YbulkdhcgDoorBuilder
namespace Go.Proofs.YbulkdhcgDoor
open Go.RowKit

/-- a byte. -/
def u8 (z : Int) : UInt8 := UInt8.ofNat z.toNat
theorem u8_toNat {z : Int} (h0 : 0 ≤ z) (h1 : z ≤ 255) : ((u8 z).toNat : Int) = z := by
  unfold u8
  have : (UInt8.ofNat z.toNat).toNat = z.toNat % 256 := by simp
  rw [this]; omega
/-- character k's bytes. -/
def chb (t : Mk) (k : Nat) : List UInt8 := (List.range (t.off (k + 1) - t.off k)).map fun j => u8 (t.y (t.off k + j))
/-- what is written of the characters in ks. -/
def outOf (t : Mk) (S : Nat → Bool) (ks : List Nat) : List UInt8 := (ks.filter fun k => !S k).flatMap (chb t)
theorem outOf_snoc (t : Mk) (S : Nat → Bool) (ks : List Nat) (k : Nat) : outOf t S (ks ++ [k]) = outOf t S ks ++ (if S k then [] else chb t k) := by
  unfold outOf
  rw [List.filter_append, List.flatMap_append]
  cases h : S k <;> simp [h]
theorem outOf_nil (t : Mk) (S : Nat → Bool) : outOf t S [] = [] := rfl

/-- the builder in block b holds l. -/
def Bld (B b : Nat) (l : List UInt8) (w : World) : Prop :=
  B ≤ b ∧ ((l = [] ∧ w.heap[b]? = some (.cells #[.pointer none, .slice none 0 0] 101 (0, 0))) ∨ (l ≠ [] ∧ Lib.BuilderAt 101 5 B b (.pointer (some ⟨b, 0, none⟩)) (Lib.byteCells l) w))
theorem Bld.is {B b : Nat} {l : List UInt8} {w : World} (h : Bld B b l w) : Lib.IsBuilder 101 5 B b (Lib.byteCells l) w := by
  obtain ⟨hB, ⟨rfl, h⟩ | ⟨_, h⟩⟩ := h
  · exact Or.inl ⟨hB, _, h, ⟨rfl, Or.inl ⟨rfl, rfl⟩⟩, by simp [Value.ownBlock]⟩
  · exact Or.inr h
theorem Bld.lt {B b : Nat} {l : List UInt8} {w : World} (h : Bld B b l w) : b < w.heap.size := by
  obtain ⟨hB, ⟨rfl, h⟩ | ⟨_, h⟩⟩ := h
  · exact (Array.getElem?_eq_some_iff.1 h).1
  · exact h.lt
/-- what turns neither the builder nor a row of bytes from B on leaves it. -/
theorem Bld.keep {B b : Nat} {l : List UInt8} {w w' : World} (h : Bld B b l w) (hb : ∀ o, w.heap[b]? = some o → w'.heap[b]? = some o) (hg : ∀ g cur, B ≤ g → w.heap[g]? = some (.cells cur 5 (0, 0)) → w'.heap[g]? = some (.cells cur 5 (0, 0))) : Bld B b l w' := by
  obtain ⟨hB, ⟨rfl, h⟩ | ⟨hl, hB2, v, hv, hown, hne⟩⟩ := h
  · exact ⟨hB, Or.inl ⟨rfl, hb _ h⟩⟩
  · refine ⟨hB, Or.inr ⟨hl, hB2, v, hb _ hv, ⟨hown.1, ?_⟩, hne⟩⟩
    rcases hown.2 with h1 | ⟨g, cap, cur, h1, h2, h3, h4⟩
    · exact Or.inl h1
    · exact Or.inr ⟨g, cap, cur, h1, h2, hg g cur h2 h3, h4⟩
theorem Bld.grown {B b C : Nat} {l : List UInt8} {w w' : World} {row : Option Nat} (h : Bld B b l w) (hg : w.grownBy w' row) (hr : ∀ r, row = some r → C ≤ r ∧ ∃ o : Obj, w.heap[r]? = some o ∧ o.isCells = false) : Bld B b l w' := by
  have key : ∀ (k : Nat) (o : Obj), w.heap[k]? = some o → o.isCells = true → w'.heap[k]? = some o := fun k o hk hc => (hg.block k (Array.getElem?_eq_some_iff.1 hk).1 (fun e => by
    obtain ⟨_, o', h1, h2⟩ := hr k e.symm
    rw [hk] at h1; cases h1; rw [hc] at h2; cases h2)).trans hk
  refine h.keep (fun o ho => ?_) (fun g cur _ hgc => key g _ hgc rfl)
  obtain ⟨_, ⟨_, h1⟩ | ⟨_, _, v, h1, _⟩⟩ := h
  · exact key b o ho (by rw [h1] at ho; cases ho; rfl)
  · exact key b o ho (by rw [h1] at ho; cases ho; rfl)
theorem heap_grown {C k : Nat} {o : Obj} {w w' : World} {row : Option Nat} (h : w.heap[k]? = some o) (hc : o.isCells = true) (hg : w.grownBy w' row) (hr : ∀ r, row = some r → C ≤ r ∧ ∃ o : Obj, w.heap[r]? = some o ∧ o.isCells = false) : w'.heap[k]? = some o :=
  (hg.block k (Array.getElem?_eq_some_iff.1 h).1 (fun e => by
    obtain ⟨_, o', h1, h2⟩ := hr k e.symm
    rw [h] at h1; cases h1; rw [hc] at h2; cases h2)).trans h
theorem bkeep_grown {B b C : Nat} {w V V' : World} {row : Option Nat} (h : BKeep B b w V) (hw : w.heap.size ≤ C) (hg : V.grownBy V' row) (hr : ∀ r, row = some r → C ≤ r ∧ ∃ o : Obj, V.heap[r]? = some o ∧ o.isCells = false) : BKeep B b w V' := fun K h1 h2 => by
  have hk := h K h1 h2
  refine ⟨hg.os.trans hk.os, hg.tape.trans hk.tape, hg.output.trans hk.output, Nat.le_trans hk.size hg.size, fun k o ho hK => ?_⟩
  have hV := hk.block k o ho hK
  refine (hg.block k (Array.getElem?_eq_some_iff.1 hV).1 (fun e => ?_)).trans hV
  have := (hr k e.symm).1
  have := (Array.getElem?_eq_some_iff.1 ho).1
  omega

/-- a round's index. -/
theorem pre_index {f n : Nat} {pre : List Nat} {x : Nat} (h : (pre ++ [x]) <+: List.range' f n) : x = f + pre.length ∧ pre.length < n ∧ pre = List.range' f pre.length := by
  obtain ⟨r, hr⟩ := h
  have hl : pre.length + 1 + r.length = n := by
    have := congrArg List.length hr
    simp at this
    omega
  have h1 : (pre ++ [x] ++ r)[pre.length]? = some x := by simp
  rw [hr, List.getElem?_range' (by omega)] at h1
  have h2 : pre = (pre ++ [x] ++ r).take pre.length := by simp
  refine ⟨by have := Option.some.inj h1; omega, by omega, ?_⟩
  have h3 : List.range' f n = List.range' f pre.length ++ List.range' (f + pre.length) (n - pre.length) := by
    have := List.range'_append (s := f) (m := pre.length) (n := n - pre.length) (step := 1)
    rw [Nat.one_mul] at this
    rw [this]
    congr 1
    omega
  rw [h2, hr, h3]
  simp
end Go.Proofs.YbulkdhcgDoor
