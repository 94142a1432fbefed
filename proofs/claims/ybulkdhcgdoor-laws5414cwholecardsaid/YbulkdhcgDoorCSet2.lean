/-
  countSet: a word written back.
-/
import Derived.Test.YbulkdhcgDoorCSet
namespace Go.Proofs.YbulkdhcgDoor
open Go.RowKit

/-- the first n words of level k, zeros past its end. -/
def wz (s : Lvs) (k n : Nat) : List Value := (List.range n).map fun j => .int .u64 (s.old k j : Nat)
theorem wz_succ (s : Lvs) {k n : Nat} (h : s.nw k ≤ n) : wz s k n ++ [.int .u64 0] = wz s k (n + 1) := by
  unfold wz
  rw [List.range_succ, List.map_append]
  congr 1
  have e : s.old k n = 0 := by unfold Lvs.old; rw [if_neg (by omega)]
  simp [e]
theorem wz_start (s : Lvs) {k : Nat} (hk : k < s.L) : wz s k (s.nw k) = wl s k := by
  unfold wz wl
  refine List.map_congr_left (fun j hj => ?_)
  have := List.mem_range.1 hj
  have e : s.old k j = s.wd k j := by unfold Lvs.old; rw [if_pos ⟨hk, this⟩]
  rw [e]
theorem wz_len (s : Lvs) (k n : Nat) : (wz s k n).length = n := by unfold wz; simp
theorem wz_get (s : Lvs) {k n j : Nat} (h : j < n) : (wz s k n)[j]? = some (.int .u64 (s.old k j : Nat)) := by unfold wz; simp [h]
theorem wl_upd (s : Lvs) {k x m : Nat} (hk : k < s.L) : wl (s.upd k x m) k = (wz s k (max (s.nw k) (x + 1))).set x (.int .u64 ((s.old k x ||| m : Nat) : Int)) := by
  have e1 : (s.upd k x m).nw k = max (s.nw k) (x + 1) := by unfold Lvs.upd Lvs.nz; simp [hk]
  apply List.ext_getElem?
  intro j
  unfold wl
  rw [e1, List.getElem?_set]
  by_cases hj : j < max (s.nw k) (x + 1)
  · rw [List.getElem?_map, List.getElem?_range hj]
    have e2 : (s.upd k x m).wd k j = if j = x then s.old k x ||| m else s.old k j := by unfold Lvs.upd; simp
    show some (Value.int .u64 ((s.upd k x m).wd k j : Nat)) = _
    rw [e2]
    by_cases h : x = j
    · subst h
      rw [if_pos rfl, if_pos rfl, if_pos (by rw [wz_len]; exact hj)]
    · rw [if_neg h, if_neg (fun e => h e.symm), wz_get s hj]
  · rw [List.getElem?_eq_none (by simp; omega)]
    by_cases h : x = j
    · subst h; omega
    · rw [if_neg h, List.getElem?_eq_none (by rw [wz_len]; omega)]

theorem CSAt.done {s : Lvs} {W : World} {C bd od k x m g cap gv capv : Nat} {lv : Nat → Value} (h : CSAt s (fun i => i = k) W C bd od (.slice (some ⟨gv, 0, none⟩) s.L capv) lv) (hk : k < s.L)
    (hu : W.ownsRow C 24 1 (.slice (some ⟨g, 0, none⟩) (max (s.nw k) (x + 1)) cap) (max (s.nw k) (x + 1)) (wz s k (max (s.nw k) (x + 1)))) (hd : ∀ j, j < s.L → j ≠ k → (lv j).ownBlock ≠ some g) :
    CSAt (s.upd k x m) (fun _ => False) ((W.setCell ⟨g, x, none⟩ (.int .u64 ((s.old k x ||| m : Nat) : Int))).setCell ⟨gv, k, none⟩ (.slice (some ⟨g, 0, none⟩) (max (s.nw k) (x + 1)) cap)) C bd od (.slice (some ⟨gv, 0, none⟩) s.L capv)
      (fun j => if j = k then .slice (some ⟨g, 0, none⟩) (max (s.nw k) (x + 1)) cap else lv j) := by
  have hgC : C ≤ g := (hu.lt g rfl).1
  have hvC : C ≤ gv := (h.row.lt gv rfl).1
  have hbC := h.bdC
  have hne : gv ≠ g := fun e => own_ne h.row hu (by decide) gv rfl (by rw [e]; rfl)
  have eL : (s.upd k x m).L = s.L := by unfold Lvs.upd; simp only; omega
  have sz : ∀ (X : World) (p : Addr) (u : Value), (X.setCell p u).heap.size = X.heap.size := fun X p u => by show (X.heap.modify _ _).size = _; rw [Array.size_modify]
  have hr1 := own_set (ownsRow_setCell_other h.row (a := ⟨g, x, none⟩) (fun e => hne (by cases e; rfl)) (.int .u64 ((s.old k x ||| m : Nat) : Int))) k (.slice (some ⟨g, 0, none⟩) (max (s.nw k) (x + 1)) cap)
  refine ⟨?_, ?_, h.bdC, by rw [sz, sz]; exact h.size, ?_, fun i hi _ => ?_, fun i j hi hj hij _ _ q h1 h2 => ?_⟩
  · rw [World.cell?_setCell_other _ _ _ _ (fun e => by cases e; omega), World.cell?_setCell_other _ _ _ _ (fun e => by cases e; omega)]; exact h.top
  · rw [World.frozen?_setCell, World.frozen?_setCell]; exact h.fz
  · rw [eL]
    have e : (List.range s.L).map (fun j => if j = k then Value.slice (some ⟨g, 0, none⟩) (max (s.nw k) (x + 1)) cap else lv j) = ((List.range s.L).map lv).set k (.slice (some ⟨g, 0, none⟩) (max (s.nw k) (x + 1)) cap) := by
      apply List.ext_getElem?
      intro j
      rw [List.getElem?_set]
      by_cases hj : j < s.L
      · rw [List.getElem?_map, List.getElem?_range hj]
        by_cases hjk : k = j
        · subst hjk; simp [hk]
        · have : ¬ j = k := fun e => hjk e.symm
          simp [hjk, this, hj]
      · rw [List.getElem?_eq_none (by simp; omega), if_neg (by omega), List.getElem?_eq_none (by simp; omega)]
    rw [e]
    exact hr1
  · rw [eL] at hi
    by_cases e : i = k
    · subst e
      have e1 : (s.upd i x m).nw i = max (s.nw i) (x + 1) := by unfold Lvs.upd Lvs.nz; simp [hk]
      simp only [if_true]
      rw [e1, wl_upd s hk]
      exact ownsRow_setCell_other (own_set hu x _) (a := ⟨gv, i, none⟩) (fun e => hne (by cases e; rfl)) _
    · simp only [if_neg e]
      have e1 : (s.upd k x m).nw i = s.nw i := by unfold Lvs.upd; simp [e]
      have e2 : wl (s.upd k x m) i = wl s i := by
        unfold wl
        rw [e1]
        refine List.map_congr_left (fun j _ => ?_)
        have : (s.upd k x m).wd i j = s.wd i j := by unfold Lvs.upd; simp [e]
        rw [this]
      rw [e1, e2]
      have hl := h.lev i hi e
      exact ownsRow_setCell_other (ownsRow_setCell_other hl (a := ⟨g, x, none⟩) (hd i hi e) _) (a := ⟨gv, k, none⟩) (fun e3 => own_ne hl h.row (by decide) gv e3 rfl) _
  · rw [eL] at hi hj
    by_cases e : i = k
    · simp only [if_pos e] at h1
      have hjk : j ≠ k := fun e2 => hij (e.trans e2.symm)
      simp only [if_neg hjk] at h2
      cases h1
      exact hd j hj hjk h2
    · simp only [if_neg e] at h1
      by_cases e2 : j = k
      · simp only [if_pos e2] at h2
        cases h2
        exact hd i hi e h1
      · simp only [if_neg e2] at h2
        exact h.dis i j hi hj hij e e2 q h1 h2
end Go.Proofs.YbulkdhcgDoor
