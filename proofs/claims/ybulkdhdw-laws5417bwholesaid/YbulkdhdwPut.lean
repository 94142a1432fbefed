/-
  (*mapEntries).put: its two ways, each a contract; the map told by its datum.
-/
import Derived.Test.YbulkdhdwRows
import Derived.WalkKit
import Derived.WalkSpells
import Derived.RowKit3
import Derived.Below
import Derived.WalkSmall
import Derived.Maps.Own
import Derived.Maps.OwnOps
import Derived.Maps.OwnSet
import Derived.Maps.Views
import Derived.Deep.LoopGhost
import Derived.Deep.DeepCutAuto
import Derived.Deep.CutBlock
import Derived.Deep.QuietTactic
import Derived.BigQuiet
import Derived.Deep.MidRow
import Derived.Deep.RegionHeld3
import Derived.Deep.RegionLawGrows
import Derived.Deep.AppendLies
import Derived.Lib.SmallJoins
namespace Go.Proofs.Ybulkdhdw
open Go.RowKit Go.Maps

/-- a map's datum: a ghost of the proof. -/
abbrev Dat : Type := DataW Unit
/-- block b is a map[uint64]int of at most n entries that reads as D. -/
def Owns (w : World) (b n : Nat) (D : Dat) : Prop := w.ownsMap Yba.prog 25 (plainElem Yba.prog 3) b n D
theorem law : Keyed Yba.prog 25 := int_keyed Yba.underlying25
theorem zeroE (w : World) : (zeroValue 3).run Yba.prog w = .ok (.int .i64 0) w := by kernel_rfl
/-- a key, a value, as data. -/
def K (h : Int) : Lit := .int .u64 h
def V (a : Int) : Dat := .lit (.int .i64 a)

theorem wf_u64 {h : Int} (h0 : 0 ≤ h) (h1 : h ≤ 18446744073709551615) : (Lit.int .u64 h).wf = true := by
  simp [Lit.wf, IntKind.min, IntKind.max, IntKind.signed, IntKind.bits]; omega
theorem wf_i64 {h : Int} (h0 : -9223372036854775808 ≤ h) (h1 : h ≤ 9223372036854775807) : (Lit.int .i64 h).wf = true := by
  simp [Lit.wf, IntKind.min, IntKind.max, IntKind.signed, IntKind.bits]; omega

/-- 'v, ok := m[k]'. -/
theorem Owns.look_ok {w : World} {b n : Nat} {D : Dat} (h : Owns w b n D) {k : Int} (hw : (Lit.int .u64 k).wf = true) :
    ∃ c : Int, (∀ q, (Instr.lookup 26 (.map (some b)) (.int .u64 k) true).run Yba.prog (w.drewN q) = .ok (.tuple #[.int .i64 c, .bool (Maps.has D (K k))]) (w.drewN q)) ∧ D.atKey (K k) (V 0) = V c := by
  have hw0 : (Lit.int .i64 0).wf = true := by decide
  obtain ⟨v, ps, hrun, hv⟩ := World.ownsMap.look_ok (w := w) h law Yba.underlying26 (zeroE w) (plainElem_int Yba.underlying3 hw0) (keyOf_int_mk Yba.underlying25 hw)
  obtain ⟨c, rfl, hc, _⟩ := plainElem_int_inv Yba.underlying3 hv
  simp only [Prod.mk.injEq] at hc
  refine ⟨c, fun q => ?_, hc.1⟩
  have h' : Owns (w.drewN q) b n D := h
  obtain ⟨v', ps', hrun', hv'⟩ := World.ownsMap.look_ok (w := w.drewN q) h' law Yba.underlying26 (zeroE _) (plainElem_int Yba.underlying3 hw0) (keyOf_int_mk Yba.underlying25 hw)
  obtain ⟨c', rfl, hc', _⟩ := plainElem_int_inv Yba.underlying3 hv'
  simp only [Prod.mk.injEq] at hc'
  have e : c' = c := by
    have := hc'.1.symm.trans hc.1
    simpa using this
  subst e
  exact hrun'
/-- 'm[k]'. -/
theorem Owns.look {w : World} {b n : Nat} {D : Dat} (h : Owns w b n D) {k : Int} (hw : (Lit.int .u64 k).wf = true) :
    ∃ c : Int, (Instr.lookup 26 (.map (some b)) (.int .u64 k) false).run Yba.prog w = .ok (.int .i64 c) w ∧ D.atKey (K k) (V 0) = V c := by
  obtain ⟨c, hrun, hat, _⟩ := World.ownsMap.lookup_int (w := w) h law Yba.underlying26 Yba.underlying3 (zeroE w) (keyOf_int_mk Yba.underlying25 hw)
  exact ⟨c, hrun, hat⟩
theorem Owns.len {w : World} {b n : Nat} {D : Dat} (h : Owns w b n D) (ty : TypeId) : (Builtin.len_ #[26] ty #[.map (some b)]).run Yba.prog w = .ok (.int .i64 (Maps.size D)) w := World.ownsMap.len h Yba.underlying26 ty
theorem Owns.alloc {w : World} {b n : Nat} {D : Dat} (h : Owns w b n D) (o : Obj) : Owns (w.alloc o) b n D := World.ownsMap.alloc h o
theorem Owns.drewN {w : World} {b n : Nat} {D : Dat} (h : Owns w b n D) (q : Nat) : Owns (w.drewN q) b n D := h
theorem Owns.setCell {w : World} {b n : Nat} {D : Dat} (h : Owns w b n D) {a : Addr} (ha : b ≠ a.block) (u : Value) : Owns (w.setCell a u) b n D := World.ownsMap.setCell h ha u
/-- the block as it was: the map as it was. -/
theorem Owns.same {w w' : World} {b n : Nat} {D : Dat} (h : Owns w b n D) (hb : w'.heap[b]? = w.heap[b]?) : Owns w' b n D := by
  obtain ⟨es, clock, h1, r⟩ := h
  exact ⟨es, clock, hb.trans h1, r⟩

set_option maxHeartbeats 1000000 in
/-- the key is not there: it is stored. -/
theorem put_new (bm bi n : Nat) (D : Dat) (h a : Int) (hh : (Lit.int .u64 h).wf = true) (ha : (Lit.int .i64 a).wf = true) (hn : n < maxLen) (hno : Maps.has D (K h) = false) (w : World)
    (c6 : w.cell? ⟨bm, 6, none⟩ = some (.map (some bi))) (ho : Owns w bi n D) :
    Calls Yba.prog 4 #[.pointer (some ⟨bm, 0, none⟩), .agg #[.int .u64 h, .int .i64 a]] w fun e w' => e = .returned (.tuple #[]) ∧ Owns w' bi (n + 1) (D.put (K h) (V a)) ∧ w.grownBy w' (some bi) := by
  obtain ⟨c, hrun, _⟩ := (ho.alloc (.cells #[.int .u64 h, .int .i64 a] 31)).look_ok hh
  rw [hno] at hrun
  have hlt := World.block_lt_of_cell? w _ c6
  have HO : Hid (Owns w bi n D) := ho
  clear ho hno
  go_enter Yba.func4, Yba.ntmps4
  go_wp2_with fail
  go_quiet (fail)
  go_wp2_with fail
  obtain ⟨w1, hrun1, hown1, hgrow1⟩ := World.ownsMap.update (w := (w.alloc (.cells #[.int .u64 h, .int .i64 a] 31)).drewN (nq + 1)) ((HO.out.alloc _).drewN _) law Yba.underlying26 hn (keyOf_int_mk Yba.underlying25 hh) (plainElem_int Yba.underlying3 ha)
  have HO1 : Hid (Owns w1 bi (n + 1) (D.put (K h) (V a))) := hown1
  have HG1 : Hid (w.grownBy w1 (some bi)) := (World.grownBy_alloc w (.cells #[.int .u64 h, .int .i64 a] 31) (some bi)).trans ⟨hgrow1.os, hgrow1.tape, hgrow1.output, hgrow1.size, hgrow1.block⟩
  clear hown1 hgrow1 hrun
  go_region
  go_wp2
  go_end0
  exact ⟨rfl, HO1.out, HG1.out⟩

theorem cell_alloc {w : World} (o : Obj) (a : Addr) (v : Value) (h : w.cell? a = some v) : (w.alloc o).cell? a = some v := by
  rw [World.cell?_alloc_lt _ _ _ (World.block_lt_of_cell? w a h)]; exact h
theorem news_cells (W : World) (x y : Value) (T : TypeId) (n : Nat) (hn : n = W.heap.size) : ∀ j u, [x, y][j]? = some u → (W.alloc (.cells #[x, y] T)).cell? ((⟨n, 0, none⟩ : Addr).add j) = some u := by
  intro j u hj
  rw [Addr.add_mid, World.cell?_alloc_at _ _ _ _ hn]
  match j, hj with
  | 0, hj => exact hj
  | 1, hj => exact hj
theorem frozen_up {w : World} {bm : Nat} {o1 o2 : Obj} {q : Nat} (f : w.frozen? ⟨bm, 7, none⟩ = false) (h : bm < w.heap.size) : (((w.alloc o1).drewN q).alloc o2).frozen? ⟨bm, 7, none⟩ = false := by
  rw [World.frozen?_alloc_past _ _ _ (by show bm < (w.alloc o1).heap.size; rw [World.size_alloc]; omega), World.frozen?_drewN, World.frozen?_alloc_past _ _ _ h]; exact f
theorem grown_up {w w2 : World} {o1 o2 : Obj} {q : Nat} (h : (((w.alloc o1).drewN q).alloc o2).grownBy w2 none) : w.grownBy w2 none :=
  (World.grownBy_alloc w o1 none).trans ((World.grownBy_alloc (w.alloc o1) o2 none).trans ⟨h.os, h.tape, h.output, h.size, h.block⟩)
theorem ownsRow_base {w : World} {base base' : Nat} {e : TypeId} {size : Nat} {v : Value} {n : Nat} {xs : List Value} (h : w.ownsRow base e size v n xs) (hb : base' ≤ base) : w.ownsRow base' e size v n xs := by
  obtain ⟨h1, h2 | ⟨g, cap, cur, r1, r2, r3⟩⟩ := h
  · exact ⟨h1, Or.inl h2⟩
  · exact ⟨h1, Or.inr ⟨g, cap, cur, r1, Nat.le_trans hb r2, r3⟩⟩
theorem Yba.info31 : (Yba.prog.info? 31).map (fun i => (i.zero, i.size, i.bytes)) = some (some (.agg #[.int .u64 0, .int .i64 0]), 2, 16) := by kernel_rfl

set_option maxHeartbeats 1000000 in
/-- the key is there: the ref goes behind the others. -/
theorem put_has (bm bi n k : Nat) (D : Dat) (h a : Int) (ao : Option Addr) (olds : List Value) (hh : (Lit.int .u64 h).wf = true) (hk : k ≤ 1048576) (hyes : Maps.has D (K h) = true) (w : World)
    (c6 : w.cell? ⟨bm, 6, none⟩ = some (.map (some bi))) (c7 : w.cell? ⟨bm, 7, none⟩ = some (.slice ao k k)) (f7 : w.frozen? ⟨bm, 7, none⟩ = false) (ho : Owns w bi n D)
    (hnone : ao = none → k = 0 ∧ k = 0) (hlo : olds.length = k * 2) (holds : ∀ b, ao = some b → ∀ j u, olds[j]? = some u → w.cell? (b.add j) = some u) :
    Calls Yba.prog 4 #[.pointer (some ⟨bm, 0, none⟩), .agg #[.int .u64 h, .int .i64 a]] w fun e w' => e = .returned (.tuple #[]) ∧
      ∃ w1 v' q, w' = (w1.setCell ⟨bm, 7, none⟩ v').drewN q ∧ w1.ownsRow w.heap.size 31 2 v' (k + 1) (olds ++ [.int .u64 h, .int .i64 a]) ∧ w.grownBy w1 none := by
  obtain ⟨c, hrun, _⟩ := (ho.alloc (.cells #[.int .u64 h, .int .i64 a] 31)).look_ok hh
  rw [hyes] at hrun
  have hlt := World.block_lt_of_cell? w _ c6
  have HO : Hid (∀ b, ao = some b → ∀ j u, olds[j]? = some u → w.cell? (b.add j) = some u) := holds
  have HN : Hid (ao = none → k = 0 ∧ k = 0) := hnone
  have HL : Hid (olds.length = k * 2) := hlo
  clear ho hyes holds hnone hlo
  go_enter Yba.func4, Yba.ntmps4
  go_wp2_with fail
  go_quiet (fail)
  clear hrun
  go_wp2_with fail
  obtain ⟨i0, hi, hz0, hz1, hz2⟩ := info_parts Yba.info31
  have hi' : Hid (Yba.prog.info? 31 = some i0) := hi
  have hz0' : Hid (i0.zero = some (.agg #[.int .u64 0, .int .i64 0])) := hz0
  have hz1' : Hid (i0.size = 2) := hz1
  have hz2' : Hid (i0.bytes = 16) := hz2
  clear hi hz0 hz1 hz2
  go_region_law ((refine step_append_grows (by rfl) (.tmp 21) (.tmp 23) 27 (by rfl) 31 i0 (.agg #[.int .u64 0, .int .i64 0]) 2 16 Yba.underlying27 hi'.out hz0'.out hz1'.out hz2'.out (by rfl) (by decide) ao k k olds (by rfl) HN.out HL.out (by intro b hb j u hu; exact cell_alloc _ _ _ (cell_alloc _ _ _ (HO.out b hb j u hu))) ⟨w.heap.size + 1, 0, none⟩ 1 1 [.int .u64 h, .int .i64 a] (by rfl) (by rfl) (by exact news_cells _ _ _ _ _ (by simp)) (by intro u hu; simp at hu; rcases hu with rfl | rfl <;> rfl) (by omega) (by unfold maxLen; omega) (by omega) ?_; intro v' w2 hown hgrow; obtain ⟨g, cap, rfl⟩ := Go.Joins.ownsRow_form hown (by omega); have e7 : w2.cell? ⟨bm, 7, none⟩ = some (.slice ao k k) := hgrow.cell (cell_alloc _ _ _ (cell_alloc _ _ _ c7)) (by simp); have f7' : w2.frozen? ⟨bm, 7, none⟩ = false := (hgrow.frozen_far ⟨bm, 7, none⟩ (by simp; omega) (by simp)).trans (frozen_up f7 hlt); have HOW : Hid (w2.ownsRow w.heap.size 31 2 (.slice (some ⟨g, 0, none⟩) (k + 1) cap) (k + 1) (olds ++ [.int .u64 h, .int .i64 a])) := ownsRow_base hown (by simp; omega); have HGR : Hid (w.grownBy w2 none) := grown_up hgrow; clear hown hgrow))
  all_goals
    go_wp2
    exact bodyPost_ret (v := .tuple #[]) (by simp [results, Yba.results4, go_sem]) rfl ⟨rfl, w2, _, 0, rfl, HOW.out, HGR.out⟩
end Go.Proofs.Ybulkdhdw
