/-
  charText.add: the marks while they are laid, as plain data.
-/
import Derived.Test.YbulkdhcgDoorMark
namespace Go.Proofs.YbulkdhcgDoor
open Go.RowKit

/-- q + 1 marks are laid, n characters of N are passed. -/
structure Pl (N : Nat) (off : Nat → Nat) (y : Nat → Int) (n q : Nat) (mn : Nat → Nat) (mw : Nat → Bool) : Prop where
  zero : mn 0 = 0
  step : ∀ k, k < q → mn k < mn (k + 1)
  flat : ∀ k, k < q → mw k = false → ∀ j, mn k ≤ j → j < mn (k + 1) → off (j + 1) = off j + 1
  last : mn q ≤ n
  lastN : mn q < N
  nN : n ≤ N
  lflat : mw q = false → ∀ j, mn q ≤ j → j < n → off (j + 1) = off j + 1
  lasc : mw q = false → n < N → n = mn q ∧ y (off n) < 128
  wid : mw q = true → n ≤ mn q + 64
theorem Pl.ok {N : Nat} {off : Nat → Nat} {y : Nat → Int} {q : Nat} {mn : Nat → Nat} {mw : Nat → Bool} (h : Pl N off y N q mn mw) (ho : Offs y off N) (hN : N ≤ 16384) (hb : off N ≤ 65536) : (Mk.mk (q + 1) mn mw N off y).Ok := by
  refine ⟨ho, Nat.succ_pos _, h.zero, fun i hi => ?_, fun i hi hw k h1 h2 => ?_, hN, hb⟩
  · unfold Mk.next
    by_cases e : i + 1 < q + 1
    · simp only [if_pos e]; exact h.step i (by omega)
    · simp only [if_neg e]
      obtain rfl : i = q := by have : i < q + 1 := hi; omega
      exact h.lastN
  · unfold Mk.next at h2
    by_cases e : i + 1 < q + 1
    · simp only [if_pos e] at h2; exact h.flat i (by omega) hw k h1 h2
    · simp only [if_neg e] at h2
      obtain rfl : i = q := by have : i < q + 1 := hi; omega
      exact h.lflat hw k h1 h2
/-- one mark more, at n. -/
def upN {α : Type} (f : Nat → α) (q : Nat) (x : α) (k : Nat) : α := if k = q then x else f k
theorem upN_same {α : Type} (f : Nat → α) (q : Nat) (x : α) : upN f q x q = x := by unfold upN; rw [if_pos rfl]
theorem upN_lt {α : Type} (f : Nat → α) {q k : Nat} (x : α) (h : k < q) : upN f q x k = f k := by unfold upN; rw [if_neg (by omega)]
theorem Pl.push {N : Nat} {off : Nat → Nat} {y : Nat → Int} {n q n' : Nat} {mn : Nat → Nat} {mw : Nat → Bool} (h : Pl N off y n q mn mw) (b : Bool) (h1 : mn q < n') (h2 : n' < N) (hf : mw q = false → ∀ j, mn q ≤ j → j < n' → off (j + 1) = off j + 1) (hb : b = false → y (off n') < 128) :
    Pl N off y n' (q + 1) (upN mn (q + 1) n') (upN mw (q + 1) b) := by
  refine ⟨by rw [upN_lt _ _ (by omega)]; exact h.zero, fun k hk => ?_, fun k hk hw j h3 h4 => ?_, by rw [upN_same]; exact Nat.le_refl _, by rw [upN_same]; exact h2, Nat.le_of_lt h2, fun _ j h3 h4 => ?_, fun hw _ => ?_, fun _ => by rw [upN_same]; omega⟩
  · rw [upN_lt _ _ (by omega)]
    by_cases e : k = q
    · rw [e, upN_same]; exact h1
    · rw [upN_lt _ _ (by omega)]; exact h.step k (by omega)
  · rw [upN_lt _ _ (by omega)] at hw h3
    by_cases e : k = q
    · rw [e, upN_same] at h4
      rw [e] at hw h3
      exact hf hw j h3 h4
    · rw [upN_lt _ _ (by omega)] at h4; exact h.flat k (by omega) hw j h3 h4
  · rw [upN_same] at h3; omega
  · rw [upN_same] at hw ⊢; exact ⟨rfl, hb hw⟩
theorem Pl.more {N : Nat} {off : Nat → Nat} {y : Nat → Int} {n q n' : Nat} {mn : Nat → Nat} {mw : Nat → Bool} (h : Pl N off y n q mn mw) (hw : mw q = true) (h1 : mn q ≤ n') (h2 : n' ≤ N) (h3 : n' ≤ mn q + 64) : Pl N off y n' q mn mw :=
  ⟨h.zero, h.step, h.flat, h1, h.lastN, h2, fun e => (by rw [hw] at e; cases e), fun e => (by rw [hw] at e; cases e), fun _ => h3⟩
theorem Pl.asc {N : Nat} {off : Nat → Nat} {y : Nat → Int} {n q : Nat} {mn : Nat → Nat} {mw : Nat → Bool} (h : Pl N off y n q mn mw) (hw : mw q = false) (hf : ∀ j, mn q ≤ j → j < N → off (j + 1) = off j + 1) : Pl N off y N q mn mw :=
  ⟨h.zero, h.step, h.flat, Nat.le_of_lt h.lastN, h.lastN, Nat.le_refl _, fun _ => hf, fun _ e => by omega, fun e => by rw [hw] at e; cases e⟩

theorem sl_asc {c : Int} (h : c < 128) : sl c = 1 := by unfold sl; rw [if_pos h]
/-- behind k bytes of ASCII stand k characters. -/
theorem asc_offs {y : Nat → Int} {off : Nat → Nat} {N n : Nat} (ho : Offs y off N) (hn : n ≤ N) : ∀ k, (∀ j, j < k → y (off n + j) < 128) → off n + k ≤ off N → n + k ≤ N ∧ off (n + k) = off n + k
  | 0, _, _ => ⟨hn, rfl⟩
  | k + 1, ha, hk => by
    obtain ⟨h1, h2⟩ := asc_offs ho hn k (fun j hj => ha j (by omega)) (by omega)
    have h3 : n + k < N := by
      rcases Nat.lt_or_ge (n + k) N with h | h
      · exact h
      · have e : n + k = N := by omega
        rw [e] at h2; omega
    have h4 := ho.succ (n + k) h3
    rw [h2, sl_asc (ha k (by omega))] at h4
    exact ⟨h3, h4⟩
theorem asc_flat {y : Nat → Int} {off : Nat → Nat} {N n k : Nat} (ho : Offs y off N) (hn : n ≤ N) (ha : ∀ j, j < k → y (off n + j) < 128) (hk : off n + k ≤ off N) : ∀ j, n ≤ j → j < n + k → off (j + 1) = off j + 1 := fun j h1 h2 => by
  have a := (asc_offs ho hn (j - n) (fun i hi => ha i (by omega)) (by omega)).2
  have b := (asc_offs ho hn (j - n + 1) (fun i hi => ha i (by omega)) (by omega)).2
  rw [show n + (j - n) = j by omega] at a
  rw [show n + (j - n + 1) = j + 1 by omega] at b
  omega

/-- the marks' cells. -/
def ml (off : Nat → Nat) (mn : Nat → Nat) (mw : Nat → Bool) : Nat → List Value
  | 0 => []
  | m + 1 => ml off mn mw m ++ [.int .u32 (mn m : Nat), .bool (mw m), .int .i64 (off (mn m) : Nat)]
theorem ml_len (off : Nat → Nat) (mn : Nat → Nat) (mw : Nat → Bool) : ∀ m, (ml off mn mw m).length = m * 3
  | 0 => rfl
  | m + 1 => by unfold ml; rw [List.length_append, ml_len off mn mw m]; show m * 3 + 3 = _; omega
theorem ml_congr (off : Nat → Nat) {mn mn' : Nat → Nat} {mw mw' : Nat → Bool} : ∀ m, (∀ k, k < m → mn k = mn' k ∧ mw k = mw' k) → ml off mn mw m = ml off mn' mw' m
  | 0, _ => rfl
  | m + 1, h => by
    unfold ml
    rw [ml_congr off m (fun k hk => h k (by omega)), (h m (by omega)).1, (h m (by omega)).2]
theorem ml_at (off : Nat → Nat) (mn : Nat → Nat) (mw : Nat → Bool) : ∀ m k, k < m → (ml off mn mw m)[k * 3]? = some (.int .u32 (mn k : Nat)) ∧ (ml off mn mw m)[k * 3 + 1]? = some (.bool (mw k)) ∧ (ml off mn mw m)[k * 3 + 2]? = some (.int .i64 (off (mn k) : Nat))
  | 0, k, h => by omega
  | m + 1, k, h => by
    unfold ml
    have hl := ml_len off mn mw m
    by_cases e : k = m
    · subst e
      refine ⟨?_, ?_, ?_⟩
      · rw [List.getElem?_append_right (by omega), hl, Nat.sub_self]; rfl
      · rw [List.getElem?_append_right (by omega), hl, show k * 3 + 1 - k * 3 = 1 by omega]; rfl
      · rw [List.getElem?_append_right (by omega), hl, show k * 3 + 2 - k * 3 = 2 by omega]; rfl
    · obtain ⟨h1, h2, h3⟩ := ml_at off mn mw m k (by omega)
      refine ⟨?_, ?_, ?_⟩
      · rw [List.getElem?_append_left (by omega)]; exact h1
      · rw [List.getElem?_append_left (by omega)]; exact h2
      · rw [List.getElem?_append_left (by omega)]; exact h3
theorem ml_push (off : Nat → Nat) (mn : Nat → Nat) (mw : Nat → Bool) (m n : Nat) (b : Bool) : ml off mn mw m ++ [.int .u32 (n : Nat), .bool b, .int .i64 (off n : Nat)] = ml off (upN mn m n) (upN mw m b) (m + 1) := by
  show _ = ml off (upN mn m n) (upN mw m b) m ++ _
  rw [ml_congr off (mn := upN mn m n) (mn' := mn) (mw := upN mw m b) (mw' := mw) m (fun k hk => ⟨upN_lt _ _ hk, upN_lt _ _ hk⟩), upN_same, upN_same]

/-- what is held of the charText while it is laid. -/
structure AD (w : World) (ba oa : Nat) (off : Nat → Nat) (n q : Nat) (mn : Nat → Nat) (mw : Nat → Bool) (g cap : Nat) (W : World) : Prop where
  own : W.ownsRow w.heap.size 91 3 (.slice (some ⟨g, 0, none⟩) (q + 1) cap) (q + 1) (ml off mn mw (q + 1))
  c1 : W.cell? ⟨ba, oa + 1, none⟩ = some (.slice (some ⟨g, 0, none⟩) (q + 1) cap)
  c2 : W.cell? ⟨ba, oa + 2, none⟩ = some (.int .i64 0)
  c3 : W.cell? ⟨ba, oa + 3, none⟩ = some (.int .u32 n)
  c4 : ∃ b, W.cell? ⟨ba, oa + 4, none⟩ = some (.bool b)
  fr : MFr w W ba oa (fun _ => False)
theorem AD.cell {w : World} {ba oa : Nat} {off : Nat → Nat} {n q : Nat} {mn : Nat → Nat} {mw : Nat → Bool} {g cap : Nat} {W : World} (h : AD w ba oa off n q mn mw g cap W) {k : Nat} (hk : k < q + 1) :
    W.cell? ⟨g, k * 3, none⟩ = some (.int .u32 (mn k : Nat)) ∧ W.cell? ⟨g, k * 3 + 1, none⟩ = some (.bool (mw k)) ∧ W.cell? ⟨g, k * 3 + 2, none⟩ = some (.int .i64 (off (mn k) : Nat)) := by
  obtain ⟨h1, h2, h3⟩ := ml_at off mn mw (q + 1) k hk
  have c := h.own.cells (g := g) rfl
  have a1 := c _ _ h1
  have a2 := c _ _ h2
  have a3 := c _ _ h3
  rw [Addr.add_mid, Nat.zero_add] at a1 a2 a3
  exact ⟨a1, a2, a3⟩
theorem mark_row {w W : World} {ba j : Nat} {e sz : Nat} {v : Value} {n : Nat} {xs : List Value} (u : Value) (hb : ba < w.heap.size) (h : W.ownsRow w.heap.size e sz v n xs) : (W.setCell ⟨ba, j, none⟩ u).ownsRow w.heap.size e sz v n xs :=
  h.kept (row := some ba) ⟨rfl, rfl, rfl, by show W.heap.size ≤ (W.heap.modify _ _).size; rw [Array.size_modify]; exact Nat.le_refl _, fun k _ hkne => Below.heap_setCell W ⟨ba, j, none⟩ u k (fun e => hkne (by rw [e]))⟩ (Or.inr (fun e => by have := (h.lt ba e).1; omega))
/-- the number of characters is written. -/
theorem AD.num {w : World} {ba oa : Nat} {off : Nat → Nat} {n q : Nat} {mn : Nat → Nat} {mw : Nat → Bool} {g cap : Nat} {W : World} (h : AD w ba oa off n q mn mw g cap W) (hb : ba < w.heap.size) (n' : Nat) : AD w ba oa off n' q mn mw g cap (W.setCell ⟨ba, oa + 3, none⟩ (.int .u32 n')) := by
  have hne : ∀ j k, j ≠ k → (⟨ba, j, none⟩ : Addr) ≠ ⟨ba, k, none⟩ := fun j k h e => h (by cases e; rfl)
  obtain ⟨b, hb4⟩ := h.c4
  exact ⟨mark_row _ hb h.own, (World.cell?_setCell_other _ _ _ _ (hne _ _ (by omega))).trans h.c1, (World.cell?_setCell_other _ _ _ _ (hne _ _ (by omega))).trans h.c2, World.cell?_setCell_same _ _ _ h.c3, ⟨b, (World.cell?_setCell_other _ _ _ _ (hne _ _ (by omega))).trans hb4⟩, h.fr.set _ (by omega) _⟩
/-- a mark is laid. -/
theorem AD.mark {w : World} {ba oa : Nat} {off : Nat → Nat} {n q : Nat} {mn : Nat → Nat} {mw : Nat → Bool} {g cap : Nat} {W W' : World} {b c : Bool} (h : AD w ba oa off n q mn mw g cap W)
    (hp : MarkPost W w.heap.size ba oa (q + 1) (.slice (some ⟨g, 0, none⟩) (q + 1) cap) (ml off mn mw (q + 1) ++ [.int .u32 n, .bool b, .int .i64 (off n : Nat)]) c W') : ∃ g' cap', AD w ba oa off n (q + 1) (upN mn (q + 1) n) (upN mw (q + 1) b) g' cap' W' := by
  obtain ⟨g', cap', h1, h2, h3, h4, h5, h6⟩ := hp
  refine ⟨g', cap', ?_, h2, h4.trans h.c2, h5.trans h.c3, ⟨_, h3⟩, h.fr.comp h6 (fun r e => Or.inr (h.own.lt r e).1)⟩
  rw [ml_push] at h1
  exact h1
theorem AD.first {w W' : World} {ba oa : Nat} {off : Nat → Nat} {b c : Bool} (h0 : off 0 = 0) (c2 : w.cell? ⟨ba, oa + 2, none⟩ = some (.int .i64 0)) (c3 : w.cell? ⟨ba, oa + 3, none⟩ = some (.int .u32 0))
    (hp : MarkPost w w.heap.size ba oa 0 (.slice none 0 0) ([] ++ [.int .u32 (0 : Nat), .bool b, .int .i64 (0 : Nat)]) c W') : ∃ g' cap', AD w ba oa off 0 0 (fun _ => 0) (fun _ => b) g' cap' W' := by
  obtain ⟨g', cap', h1, h2, h3, h4, h5, h6⟩ := hp
  refine ⟨g', cap', ?_, h2, h4.trans c2, h5.trans c3, ⟨_, h3⟩, (MFr.refl w ba oa _).comp h6 (fun r e => by cases e)⟩
  show W'.ownsRow w.heap.size 91 3 (.slice (some ⟨g', 0, none⟩) 1 cap') 1 ([] ++ [.int .u32 (0 : Nat), .bool b, .int .i64 (off 0 : Nat)])
  rw [h0]
  exact h1

/-- what add leaves. -/
def AddTPost (N : Nat) (off : Nat → Nat) (y : Nat → Int) (w : World) (ba oa : Nat) (w' : World) : Prop :=
  ∃ m mn mw g cap, (Mk.mk m mn mw N off y).Ok ∧ w'.cell? ⟨ba, oa + 1, none⟩ = some (.slice (some ⟨g, 0, none⟩) m cap) ∧ w'.cell? ⟨ba, oa + 3, none⟩ = some (.int .u32 N) ∧ w.heap.size ≤ g ∧ g < w'.heap.size ∧ MFr w w' ba oa (fun _ => False) ∧
    ∀ i, i < m → w'.cell? ⟨g, i * 3, none⟩ = some (.int .u32 (mn i : Nat)) ∧ w'.cell? ⟨g, i * 3 + 1, none⟩ = some (.bool (mw i)) ∧ w'.cell? ⟨g, i * 3 + 2, none⟩ = some (.int .i64 (off (mn i) : Nat))
theorem AD.done {w : World} {ba oa : Nat} {off : Nat → Nat} {y : Nat → Int} {N q : Nat} {mn : Nat → Nat} {mw : Nat → Bool} {g cap : Nat} {W : World} (h : AD w ba oa off N q mn mw g cap W) (hb : ba < w.heap.size) (hp : Pl N off y N q mn mw) (ho : Offs y off N) (hN : N ≤ 16384) (hbb : off N ≤ 65536) (u : Value) :
    AddTPost N off y w ba oa (W.setCell ⟨ba, oa + 2, none⟩ u) := by
  have hne : ∀ j k, j ≠ k → (⟨ba, j, none⟩ : Addr) ≠ ⟨ba, k, none⟩ := fun j k h e => h (by cases e; rfl)
  have hg := h.own.lt g rfl
  have hgne : g ≠ ba := by omega
  refine ⟨q + 1, mn, mw, g, cap, hp.ok ho hN hbb, (World.cell?_setCell_other _ _ _ _ (hne _ _ (by omega))).trans h.c1, (World.cell?_setCell_other _ _ _ _ (hne _ _ (by omega))).trans h.c3, hg.1, by show g < (W.heap.modify _ _).size; rw [Array.size_modify]; exact hg.2, h.fr.set _ (by omega) _, fun i hi => ?_⟩
  obtain ⟨a1, a2, a3⟩ := h.cell hi
  have hf : ∀ j, (W.setCell ⟨ba, oa + 2, none⟩ u).cell? ⟨g, j, none⟩ = W.cell? ⟨g, j, none⟩ := fun j => World.cell?_setCell_other _ _ _ _ (fun e => by cases e; omega)
  exact ⟨(hf _).trans a1, (hf _).trans a2, (hf _).trans a3⟩
end Go.Proofs.YbulkdhcgDoor
