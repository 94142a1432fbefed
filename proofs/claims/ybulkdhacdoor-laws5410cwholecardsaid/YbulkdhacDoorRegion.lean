/-
  The region that builds the event, by itself.
-/
import Derived.Test.YbulkdhacDoorOps
import Derived.Test.YbulkdhacDoorPrev
namespace Go.Proofs.YbulkdhacDoor
open Go.RowKit Floats

/-- the invariant. -/
def RInv (w wr : World) (A : Nat → Value) (ec : List Value) (N G Pr x0 x1 x2 x3 x4 x5 d0 d1 d2 d3 d4 d5 d6 d7 d8 p0 p1 p2 p3 p4 p5 p6 p7 p8 : Int) (n0 n1 n2 n3 n4 n5 n6 n7 n8 : Nat) (sc fo pe : Bool) (v : Nat → Value) (l : Array Bool) (a : Act) (W : World) : Prop :=
  ∃ p, a = actOf v (rv (w.heap.size + 1) N G Pr x0 x1 x2 x3 x4 x5 d0 d1 d2 d3 d4 d5 d6 d7 d8 n0 n1 n2 n3 n4 n5 n6 n7 n8 p0 p1 p2 p3 p4 p5 p6 p7 p8 sc fo pe) l p ∧ EvS w wr A ec N G Pr x0 x1 x2 x3 x4 x5 d0 d1 d2 d3 d4 d5 d6 d7 d8 p0 p1 p2 p3 p4 p5 p6 p7 p8 sc fo pe W ∧ (l.getD 91 false = true → W.there p 0 30 ∧ wr.heap.size < p ∧ w.heap.size + 1 + 1 < p) ∧ (l.getD 92 false = true → W.rangeAt p 0 [.int .i64 N, .int .u64 d0, .int .u8 ((n0 : Nat) : Int), .int .i64 G, .int .u64 d1, .int .u8 ((n1 : Nat) : Int), .int .u64 d2, .int .u8 ((n2 : Nat) : Int), .int .u64 d3, .int .u8 ((n3 : Nat) : Int), .int .u64 d4, .int .u8 ((n4 : Nat) : Int), .int .u64 d5, .int .u8 ((n5 : Nat) : Int), .int .u64 d6, .int .u8 ((n6 : Nat) : Int), .int .u64 d7, .int .u8 ((n7 : Nat) : Int), .int .u64 d8, .int .u8 ((n8 : Nat) : Int), .int .i64 x0, .int .i64 x1, .int .i64 x2, .int .i64 x3, .int .i64 x4, .int .i64 x5, .bool sc, .int .i64 Pr, .bool fo, .bool pe]) ∧ (l.getD 92 false = true → l.getD 91 false = true)

theorem RInv.quiet {w wr : World} {A : Nat → Value} {ec : List Value} {N G Pr x0 x1 x2 x3 x4 x5 d0 d1 d2 d3 d4 d5 d6 d7 d8 p0 p1 p2 p3 p4 p5 p6 p7 p8 : Int} {n0 n1 n2 n3 n4 n5 n6 n7 n8 : Nat} {sc fo pe : Bool} (v : Nat → Value) (V : List Value) (l : Array Bool) (p i : Nat) (hl : l.size = 93) (hi : i < 91) (val : Value) (hv : V.getD i undef = val) {W W' : World}
    (h1 : l.getD 91 false = true → W.there p 0 30 ∧ wr.heap.size < p ∧ w.heap.size + 1 + 1 < p) (h2 : l.getD 92 false = true → W.rangeAt p 0 [.int .i64 N, .int .u64 d0, .int .u8 ((n0 : Nat) : Int), .int .i64 G, .int .u64 d1, .int .u8 ((n1 : Nat) : Int), .int .u64 d2, .int .u8 ((n2 : Nat) : Int), .int .u64 d3, .int .u8 ((n3 : Nat) : Int), .int .u64 d4, .int .u8 ((n4 : Nat) : Int), .int .u64 d5, .int .u8 ((n5 : Nat) : Int), .int .u64 d6, .int .u8 ((n6 : Nat) : Int), .int .u64 d7, .int .u8 ((n7 : Nat) : Int), .int .u64 d8, .int .u8 ((n8 : Nat) : Int), .int .i64 x0, .int .i64 x1, .int .i64 x2, .int .i64 x3, .int .i64 x4, .int .i64 x5, .bool sc, .int .i64 Pr, .bool fo, .bool pe]) (h3 : l.getD 92 false = true → l.getD 91 false = true)
    (hS : EvS w wr A ec N G Pr x0 x1 x2 x3 x4 x5 d0 d1 d2 d3 d4 d5 d6 d7 d8 p0 p1 p2 p3 p4 p5 p6 p7 p8 sc fo pe W') (hu : Below W.heap.size W W') :
    ∃ q, (actOf v V l p).put (some (66 + i)) val = actOf v V (l.setIfInBounds i true) q ∧ EvS w wr A ec N G Pr x0 x1 x2 x3 x4 x5 d0 d1 d2 d3 d4 d5 d6 d7 d8 p0 p1 p2 p3 p4 p5 p6 p7 p8 sc fo pe W' ∧ ((l.setIfInBounds i true).getD 91 false = true → W'.there q 0 30 ∧ wr.heap.size < q ∧ w.heap.size + 1 + 1 < q) ∧ ((l.setIfInBounds i true).getD 92 false = true → W'.rangeAt q 0 [.int .i64 N, .int .u64 d0, .int .u8 ((n0 : Nat) : Int), .int .i64 G, .int .u64 d1, .int .u8 ((n1 : Nat) : Int), .int .u64 d2, .int .u8 ((n2 : Nat) : Int), .int .u64 d3, .int .u8 ((n3 : Nat) : Int), .int .u64 d4, .int .u8 ((n4 : Nat) : Int), .int .u64 d5, .int .u8 ((n5 : Nat) : Int), .int .u64 d6, .int .u8 ((n6 : Nat) : Int), .int .u64 d7, .int .u8 ((n7 : Nat) : Int), .int .u64 d8, .int .u8 ((n8 : Nat) : Int), .int .i64 x0, .int .i64 x1, .int .i64 x2, .int .i64 x3, .int .i64 x4, .int .i64 x5, .bool sc, .int .i64 Pr, .bool fo, .bool pe]) ∧ ((l.setIfInBounds i true).getD 92 false = true → (l.setIfInBounds i true).getD 91 false = true) := by
  have e1 : (l.setIfInBounds i true).getD 91 false = l.getD 91 false := by rw [getD_set (by omega), if_neg (by omega)]
  have e2 : (l.setIfInBounds i true).getD 92 false = l.getD 92 false := by rw [getD_set (by omega), if_neg (by omega)]
  rw [e1, e2]
  exact ⟨p, actOf_put v V l p i hl hi val hv, hS, fun h => ⟨there_below hu (h1 h).1, (h1 h).2⟩, fun h => range_below hu (h2 h), h3⟩

theorem fr_set91 (v : Nat → Value) (V : List Value) (l : Array Bool) (p q x : Nat) (hl : l.size = 93) : fr v V (l.setIfInBounds 91 true) q x = if x = 11 then .pointer (some ⟨q, 0, none⟩) else fr v V l p x := by
  by_cases e : x = 11
  · subst e
    unfold fr
    rw [if_pos rfl, if_pos rfl, getD_set (by omega), if_pos rfl, if_pos rfl]
  · unfold fr
    simp only [e, if_false]
    by_cases h2 : 66 ≤ x ∧ x < 157
    · have h3 : (l.setIfInBounds 91 true).getD (x - 66) false = l.getD (x - 66) false := by rw [getD_set (by omega), if_neg (by omega)]
      rw [h3]
    · simp only [h2, if_false]
theorem actOf_put91 (v : Nat → Value) (V : List Value) (l : Array Bool) (p q : Nat) (hl : l.size = 93) : (actOf v V l p).put (some 11) (.pointer (some ⟨q, 0, none⟩)) = actOf v V (l.setIfInBounds 91 true) q := by
  unfold actOf Act.put
  simp only [Act.mk.injEq, and_true]
  apply Array.ext_getElem?
  intro x
  simp only [Array.getElem?_setIfInBounds]
  by_cases hx : x < 405
  · by_cases e : 11 = x
    · subst e
      simp [fr_set91 v V l p q _ hl]
    · have e' : ¬ x = 11 := fun h => e h.symm
      rw [if_neg e]
      simp [hx, fr_set91 v V l p q _ hl, e']
  · by_cases e : 11 = x
    · omega
    · rw [if_neg e]; simp [hx]
theorem actOf_set92 (v : Nat → Value) (V : List Value) (l : Array Bool) (p : Nat) (hl : l.size = 93) : actOf v V l p = actOf v V (l.setIfInBounds 92 true) p := by
  unfold actOf
  simp only [Act.mk.injEq, and_true]
  refine congrArg List.toArray (List.map_congr_left fun x _ => ?_)
  unfold fr
  have h1 : (l.setIfInBounds 92 true).getD 91 false = l.getD 91 false := by rw [getD_set (by omega), if_neg (by omega)]
  rw [h1]
  by_cases h2 : 66 ≤ x ∧ x < 157
  · have h3 : (l.setIfInBounds 92 true).getD (x - 66) false = l.getD (x - 66) false := by rw [getD_set (by omega), if_neg (by omega)]
    rw [h3]
  · simp only [h2, if_false]
def frF (v : Nat → Value) (V : List Value) (p x : Nat) : Value := if x = 11 then .pointer (some ⟨p, 0, none⟩) else if 66 ≤ x ∧ x < 157 then V.getD (x - 66) undef else v x
def actF (v : Nat → Value) (V : List Value) (p : Nat) : Act := ⟨((List.range 405).map (frF v V p)).toArray, []⟩
theorem actOf_all (v : Nat → Value) (V : List Value) (l : Array Bool) (p : Nat) (h : ∀ i, i < 93 → l.getD i false = true) : actOf v V l p = actF v V p := by
  unfold actOf actF
  simp only [Act.mk.injEq, and_true]
  refine congrArg List.toArray (List.map_congr_left fun x _ => ?_)
  unfold fr frF
  rw [if_pos (h 91 (by omega))]
  by_cases h2 : 66 ≤ x ∧ x < 157
  · rw [if_pos (h (x - 66) (by omega))]
  · simp only [h2, if_false]

set_option maxHeartbeats 1000000 in
theorem op_alloc {w : World} {N G Pr x0 x1 x2 x3 x4 x5 d0 d1 d2 d3 d4 d5 d6 d7 d8 p0 p1 p2 p3 p4 p5 p6 p7 p8 : Int} {n0 n1 n2 n3 n4 n5 n6 n7 n8 : Nat} {sc fo pe : Bool} (v : Nat → Value) (l : Array Bool) (p : Nat) (W : World) (Q : Exit → Act → World → Prop) (K : Act → World → Prop) (o : Oper) (ho : opsR[91]? = some o)
    (hK : K ((actOf v (rv (w.heap.size + 1) N G Pr x0 x1 x2 x3 x4 x5 d0 d1 d2 d3 d4 d5 d6 d7 d8 n0 n1 n2 n3 n4 n5 n6 n7 n8 p0 p1 p2 p3 p4 p5 p6 p7 p8 sc fo pe) l p).put (some 11) (.pointer (some ⟨W.heap.size, 0, none⟩))) (W.alloc (Obj.cells #[.int .i64 0, .int .u64 0, .int .u8 0, .int .i64 0, .int .u64 0, .int .u8 0, .int .u64 0, .int .u8 0, .int .u64 0, .int .u8 0, .int .u64 0, .int .u8 0, .int .u64 0, .int .u8 0, .int .u64 0, .int .u8 0, .int .u64 0, .int .u8 0, .int .u64 0, .int .u8 0, .int .i64 0, .int .i64 0, .int .i64 0, .int .i64 0, .int .i64 0, .int .i64 0, .bool false, .int .i64 0, .bool false, .bool false] 50))) : o.wp Ybad.prog (actOf v (rv (w.heap.size + 1) N G Pr x0 x1 x2 x3 x4 x5 d0 d1 d2 d3 d4 d5 d6 d7 d8 n0 n1 n2 n3 n4 n5 n6 n7 n8 p0 p1 p2 p3 p4 p5 p6 p7 p8 sc fo pe) l p) W K Q := by
  have ht : (opsR[91]?).map (fun o => (o.dst, o.op)) = some (some 11, .alloc 50) := by kernel_rfl
  rw [ho] at ht
  simp only [Option.map_some, Option.some.injEq, Prod.mk.injEq] at ht
  generalize actOf v (rv (w.heap.size + 1) N G Pr x0 x1 x2 x3 x4 x5 d0 d1 d2 d3 d4 d5 d6 d7 d8 n0 n1 n2 n3 n4 n5 n6 n7 n8 p0 p1 p2 p3 p4 p5 p6 p7 p8 sc fo pe) l p = a at *
  obtain ⟨odst, oop, oty, opos, oaft, og⟩ := o
  obtain ⟨ht1, ht2⟩ := ht
  obtain rfl : odst = some 11 := ht1
  obtain rfl : oop = .alloc 50 := ht2
  clear ho
  unfold Oper.wp execOp
  go_simp
  exact hK
set_option maxHeartbeats 1000000 in
theorem op_store {w : World} {N G Pr x0 x1 x2 x3 x4 x5 d0 d1 d2 d3 d4 d5 d6 d7 d8 p0 p1 p2 p3 p4 p5 p6 p7 p8 : Int} {n0 n1 n2 n3 n4 n5 n6 n7 n8 : Nat} {sc fo pe : Bool} (v : Nat → Value) (l : Array Bool) (p : Nat) (W : World) (Q : Exit → Act → World → Prop) (K : Act → World → Prop) (o : Oper) (ho : opsR[92]? = some o) (hd : ∀ e ∈ o.after, Region.binds .any e = true → l.getD e.on false = true)
    (hth : W.there p 0 30) (hK : K (actOf v (rv (w.heap.size + 1) N G Pr x0 x1 x2 x3 x4 x5 d0 d1 d2 d3 d4 d5 d6 d7 d8 n0 n1 n2 n3 n4 n5 n6 n7 n8 p0 p1 p2 p3 p4 p5 p6 p7 p8 sc fo pe) l p) (W.setCells p 0 [.int .i64 N, .int .u64 d0, .int .u8 ((n0 : Nat) : Int), .int .i64 G, .int .u64 d1, .int .u8 ((n1 : Nat) : Int), .int .u64 d2, .int .u8 ((n2 : Nat) : Int), .int .u64 d3, .int .u8 ((n3 : Nat) : Int), .int .u64 d4, .int .u8 ((n4 : Nat) : Int), .int .u64 d5, .int .u8 ((n5 : Nat) : Int), .int .u64 d6, .int .u8 ((n6 : Nat) : Int), .int .u64 d7, .int .u8 ((n7 : Nat) : Int), .int .u64 d8, .int .u8 ((n8 : Nat) : Int), .int .i64 x0, .int .i64 x1, .int .i64 x2, .int .i64 x3, .int .i64 x4, .int .i64 x5, .bool sc, .int .i64 Pr, .bool fo, .bool pe])) : o.wp Ybad.prog (actOf v (rv (w.heap.size + 1) N G Pr x0 x1 x2 x3 x4 x5 d0 d1 d2 d3 d4 d5 d6 d7 d8 n0 n1 n2 n3 n4 n5 n6 n7 n8 p0 p1 p2 p3 p4 p5 p6 p7 p8 sc fo pe) l p) W K Q := by
  have ht : (opsR[92]?).map (fun o => (o.dst, o.op, chk o [90, 91])) = some (none, .store 50 (.tmp 11) (.tmp 156), true) := by kernel_rfl
  rw [ho] at ht
  simp only [Option.map_some, Option.some.injEq, Prod.mk.injEq] at ht
  obtain ⟨ht1, ht2, ht3⟩ := ht
  have hdp := dep_chk ht3 hd
  have h156 : (actOf v (rv (w.heap.size + 1) N G Pr x0 x1 x2 x3 x4 x5 d0 d1 d2 d3 d4 d5 d6 d7 d8 n0 n1 n2 n3 n4 n5 n6 n7 n8 p0 p1 p2 p3 p4 p5 p6 p7 p8 sc fo pe) l p).tmps[156]? = some (.agg #[.int .i64 N, .int .u64 d0, .int .u8 ((n0 : Nat) : Int), .int .i64 G, .int .u64 d1, .int .u8 ((n1 : Nat) : Int), .int .u64 d2, .int .u8 ((n2 : Nat) : Int), .int .u64 d3, .int .u8 ((n3 : Nat) : Int), .int .u64 d4, .int .u8 ((n4 : Nat) : Int), .int .u64 d5, .int .u8 ((n5 : Nat) : Int), .int .u64 d6, .int .u8 ((n6 : Nat) : Int), .int .u64 d7, .int .u8 ((n7 : Nat) : Int), .int .u64 d8, .int .u8 ((n8 : Nat) : Int), .int .i64 x0, .int .i64 x1, .int .i64 x2, .int .i64 x3, .int .i64 x4, .int .i64 x5, .bool sc, .int .i64 Pr, .bool fo, .bool pe]) := actOf_dep' v _ l p 156 _ (by omega) (by omega) (hdp 90 (by simp)) rfl
  have h11 : (actOf v (rv (w.heap.size + 1) N G Pr x0 x1 x2 x3 x4 x5 d0 d1 d2 d3 d4 d5 d6 d7 d8 n0 n1 n2 n3 n4 n5 n6 n7 n8 p0 p1 p2 p3 p4 p5 p6 p7 p8 sc fo pe) l p).tmps[11]? = some (.pointer (some ⟨p, 0, none⟩)) := by
    rw [actOf_get _ _ _ _ 11 (by omega)]; unfold fr
    rw [if_pos rfl, if_pos (hdp 91 (by simp))]
  obtain ⟨ev, hev⟩ : ∃ ev : List Value, ev = [.int .i64 N, .int .u64 d0, .int .u8 ((n0 : Nat) : Int), .int .i64 G, .int .u64 d1, .int .u8 ((n1 : Nat) : Int), .int .u64 d2, .int .u8 ((n2 : Nat) : Int), .int .u64 d3, .int .u8 ((n3 : Nat) : Int), .int .u64 d4, .int .u8 ((n4 : Nat) : Int), .int .u64 d5, .int .u8 ((n5 : Nat) : Int), .int .u64 d6, .int .u8 ((n6 : Nat) : Int), .int .u64 d7, .int .u8 ((n7 : Nat) : Int), .int .u64 d8, .int .u8 ((n8 : Nat) : Int), .int .i64 x0, .int .i64 x1, .int .i64 x2, .int .i64 x3, .int .i64 x4, .int .i64 x5, .bool sc, .int .i64 Pr, .bool fo, .bool pe] := ⟨_, rfl⟩
  have hst : (storeCells ⟨p, 0, none⟩ ev).run Ybad.prog W = .ok () (W.setCells p 0 ev) := by rw [hev]; exact store_ev W p hth
  have hel : ev.length = 30 := by rw [hev]; rfl
  have h157 : (actOf v (rv (w.heap.size + 1) N G Pr x0 x1 x2 x3 x4 x5 d0 d1 d2 d3 d4 d5 d6 d7 d8 n0 n1 n2 n3 n4 n5 n6 n7 n8 p0 p1 p2 p3 p4 p5 p6 p7 p8 sc fo pe) l p).tmps[156]? = some (.agg ev.toArray) := by rw [hev]; exact h156
  rw [← hev] at hK
  clear hdp hd ht3 ho hth h156 hev
  generalize actOf v (rv (w.heap.size + 1) N G Pr x0 x1 x2 x3 x4 x5 d0 d1 d2 d3 d4 d5 d6 d7 d8 n0 n1 n2 n3 n4 n5 n6 n7 n8 p0 p1 p2 p3 p4 p5 p6 p7 p8 sc fo pe) l p = a at *
  obtain ⟨odst, oop, oty, opos, oaft, og⟩ := o
  obtain rfl : odst = none := ht1
  obtain rfl : oop = .store 50 (.tmp 11) (.tmp 156) := ht2
  unfold Oper.wp execOp
  go_simp
  exact hK

theorem op_any {w wr : World} {A : Nat → Value} {ec : List Value} {N G Pr x0 x1 x2 x3 x4 x5 d0 d1 d2 d3 d4 d5 d6 d7 d8 p0 p1 p2 p3 p4 p5 p6 p7 p8 : Int} {n0 n1 n2 n3 n4 n5 n6 n7 n8 : Nat} {sc fo pe : Bool} (hn0 : p0 % 20 = ((n0 : Nat) : Int)) (ha0 : 0 ≤ p0) (hb0 : p0 ≤ 255) (hn1 : p1 % 20 = ((n1 : Nat) : Int)) (ha1 : 0 ≤ p1) (hb1 : p1 ≤ 255) (hn2 : p2 % 20 = ((n2 : Nat) : Int)) (ha2 : 0 ≤ p2) (hb2 : p2 ≤ 255) (hn3 : p3 % 20 = ((n3 : Nat) : Int)) (ha3 : 0 ≤ p3) (hb3 : p3 ≤ 255) (hn4 : p4 % 20 = ((n4 : Nat) : Int)) (ha4 : 0 ≤ p4) (hb4 : p4 ≤ 255) (hn5 : p5 % 20 = ((n5 : Nat) : Int)) (ha5 : 0 ≤ p5) (hb5 : p5 ≤ 255) (hn6 : p6 % 20 = ((n6 : Nat) : Int)) (ha6 : 0 ≤ p6) (hb6 : p6 ≤ 255) (hn7 : p7 % 20 = ((n7 : Nat) : Int)) (ha7 : 0 ≤ p7) (hb7 : p7 ≤ 255) (hn8 : p8 % 20 = ((n8 : Nat) : Int)) (ha8 : 0 ≤ p8) (hb8 : p8 ≤ 255) (v : Nat → Value) (hv : v 5 = .pointer (some ⟨w.heap.size + 1, 0, none⟩)) (Q : Exit → Act → World → Prop) (l : Array Bool) (a : Act) (W : World) (i : Nat) (o : Oper)
    (hI : RInv w wr A ec N G Pr x0 x1 x2 x3 x4 x5 d0 d1 d2 d3 d4 d5 d6 d7 d8 p0 p1 p2 p3 p4 p5 p6 p7 p8 n0 n1 n2 n3 n4 n5 n6 n7 n8 sc fo pe v l a W) (hl : l.size = 93) (h0 : l.getD i true = false) (ho : opsR[i]? = some o) (hd : ∀ e ∈ o.after, Region.binds .any e = true → l.getD e.on false = true) :
    o.wp Ybad.prog a W (fun a' w' => RInv w wr A ec N G Pr x0 x1 x2 x3 x4 x5 d0 d1 d2 d3 d4 d5 d6 d7 d8 p0 p1 p2 p3 p4 p5 p6 p7 p8 n0 n1 n2 n3 n4 n5 n6 n7 n8 sc fo pe v (l.setIfInBounds i true) a' w') Q := by
  obtain ⟨p, rfl, hS, h1, h2, h3⟩ := hI
  have hi : i < 93 := by rw [← opsR_size]; exact (Array.getElem?_eq_some_iff.1 ho).1
  match i, hi with
  | 0, _ => exact op66 v hv l p W Q _ o ho hd hS (fun W' hS' hu => RInv.quiet v _ l p 0 hl (by omega) _ rfl h1 h2 h3 hS' hu)
  | 1, _ => exact op67 v l p W Q _ o ho hd hS (fun W' hS' hu => RInv.quiet v _ l p 1 hl (by omega) _ rfl h1 h2 h3 hS' hu)
  | 2, _ => exact op68 v hv l p W Q _ o ho hd hS (fun W' hS' hu => RInv.quiet v _ l p 2 hl (by omega) _ rfl h1 h2 h3 hS' hu)
  | 3, _ => exact op69 v l p W Q _ o ho hd hS (fun W' hS' hu => RInv.quiet v _ l p 3 hl (by omega) _ rfl h1 h2 h3 hS' hu)
  | 4, _ => exact op70 v l p W Q _ o ho hd hS (fun W' hS' hu => RInv.quiet v _ l p 4 hl (by omega) _ rfl h1 h2 h3 hS' hu)
  | 5, _ => exact op71 v hv l p W Q _ o ho hd hS (fun W' hS' hu => RInv.quiet v _ l p 5 hl (by omega) _ rfl h1 h2 h3 hS' hu)
  | 6, _ => exact op72 v l p W Q _ o ho hd hS (fun W' hS' hu => RInv.quiet v _ l p 6 hl (by omega) _ rfl h1 h2 h3 hS' hu)
  | 7, _ => exact op73 v l p W Q _ o ho hd hS (fun W' hS' hu => RInv.quiet v _ l p 7 hl (by omega) _ rfl h1 h2 h3 hS' hu)
  | 8, _ => exact op74 v l p W Q _ o ho hd hn0 ha0 hb0 hS (fun W' hS' hu => RInv.quiet v _ l p 8 hl (by omega) _ rfl h1 h2 h3 hS' hu)
  | 9, _ => exact op75 v hv l p W Q _ o ho hd hS (fun W' hS' hu => RInv.quiet v _ l p 9 hl (by omega) _ rfl h1 h2 h3 hS' hu)
  | 10, _ => exact op76 v l p W Q _ o ho hd hS (fun W' hS' hu => RInv.quiet v _ l p 10 hl (by omega) _ rfl h1 h2 h3 hS' hu)
  | 11, _ => exact op77 v hv l p W Q _ o ho hd hS (fun W' hS' hu => RInv.quiet v _ l p 11 hl (by omega) _ rfl h1 h2 h3 hS' hu)
  | 12, _ => exact op78 v l p W Q _ o ho hd hS (fun W' hS' hu => RInv.quiet v _ l p 12 hl (by omega) _ rfl h1 h2 h3 hS' hu)
  | 13, _ => exact op79 v l p W Q _ o ho hd hS (fun W' hS' hu => RInv.quiet v _ l p 13 hl (by omega) _ rfl h1 h2 h3 hS' hu)
  | 14, _ => exact op80 v hv l p W Q _ o ho hd hS (fun W' hS' hu => RInv.quiet v _ l p 14 hl (by omega) _ rfl h1 h2 h3 hS' hu)
  | 15, _ => exact op81 v l p W Q _ o ho hd hS (fun W' hS' hu => RInv.quiet v _ l p 15 hl (by omega) _ rfl h1 h2 h3 hS' hu)
  | 16, _ => exact op82 v l p W Q _ o ho hd hS (fun W' hS' hu => RInv.quiet v _ l p 16 hl (by omega) _ rfl h1 h2 h3 hS' hu)
  | 17, _ => exact op83 v l p W Q _ o ho hd hn1 ha1 hb1 hS (fun W' hS' hu => RInv.quiet v _ l p 17 hl (by omega) _ rfl h1 h2 h3 hS' hu)
  | 18, _ => exact op84 v hv l p W Q _ o ho hd hS (fun W' hS' hu => RInv.quiet v _ l p 18 hl (by omega) _ rfl h1 h2 h3 hS' hu)
  | 19, _ => exact op85 v l p W Q _ o ho hd hS (fun W' hS' hu => RInv.quiet v _ l p 19 hl (by omega) _ rfl h1 h2 h3 hS' hu)
  | 20, _ => exact op86 v l p W Q _ o ho hd hS (fun W' hS' hu => RInv.quiet v _ l p 20 hl (by omega) _ rfl h1 h2 h3 hS' hu)
  | 21, _ => exact op87 v hv l p W Q _ o ho hd hS (fun W' hS' hu => RInv.quiet v _ l p 21 hl (by omega) _ rfl h1 h2 h3 hS' hu)
  | 22, _ => exact op88 v l p W Q _ o ho hd hS (fun W' hS' hu => RInv.quiet v _ l p 22 hl (by omega) _ rfl h1 h2 h3 hS' hu)
  | 23, _ => exact op89 v l p W Q _ o ho hd hS (fun W' hS' hu => RInv.quiet v _ l p 23 hl (by omega) _ rfl h1 h2 h3 hS' hu)
  | 24, _ => exact op90 v l p W Q _ o ho hd hn2 ha2 hb2 hS (fun W' hS' hu => RInv.quiet v _ l p 24 hl (by omega) _ rfl h1 h2 h3 hS' hu)
  | 25, _ => exact op91 v hv l p W Q _ o ho hd hS (fun W' hS' hu => RInv.quiet v _ l p 25 hl (by omega) _ rfl h1 h2 h3 hS' hu)
  | 26, _ => exact op92 v l p W Q _ o ho hd hS (fun W' hS' hu => RInv.quiet v _ l p 26 hl (by omega) _ rfl h1 h2 h3 hS' hu)
  | 27, _ => exact op93 v l p W Q _ o ho hd hS (fun W' hS' hu => RInv.quiet v _ l p 27 hl (by omega) _ rfl h1 h2 h3 hS' hu)
  | 28, _ => exact op94 v hv l p W Q _ o ho hd hS (fun W' hS' hu => RInv.quiet v _ l p 28 hl (by omega) _ rfl h1 h2 h3 hS' hu)
  | 29, _ => exact op95 v l p W Q _ o ho hd hS (fun W' hS' hu => RInv.quiet v _ l p 29 hl (by omega) _ rfl h1 h2 h3 hS' hu)
  | 30, _ => exact op96 v l p W Q _ o ho hd hS (fun W' hS' hu => RInv.quiet v _ l p 30 hl (by omega) _ rfl h1 h2 h3 hS' hu)
  | 31, _ => exact op97 v l p W Q _ o ho hd hn3 ha3 hb3 hS (fun W' hS' hu => RInv.quiet v _ l p 31 hl (by omega) _ rfl h1 h2 h3 hS' hu)
  | 32, _ => exact op98 v l p W Q _ o ho hd hS (fun W' hS' hu => RInv.quiet v _ l p 32 hl (by omega) _ rfl h1 h2 h3 hS' hu)
  | 33, _ => exact op99 v hv l p W Q _ o ho hd hS (fun W' hS' hu => RInv.quiet v _ l p 33 hl (by omega) _ rfl h1 h2 h3 hS' hu)
  | 34, _ => exact op100 v l p W Q _ o ho hd hS (fun W' hS' hu => RInv.quiet v _ l p 34 hl (by omega) _ rfl h1 h2 h3 hS' hu)
  | 35, _ => exact op101 v l p W Q _ o ho hd hS (fun W' hS' hu => RInv.quiet v _ l p 35 hl (by omega) _ rfl h1 h2 h3 hS' hu)
  | 36, _ => exact op102 v hv l p W Q _ o ho hd hS (fun W' hS' hu => RInv.quiet v _ l p 36 hl (by omega) _ rfl h1 h2 h3 hS' hu)
  | 37, _ => exact op103 v l p W Q _ o ho hd hS (fun W' hS' hu => RInv.quiet v _ l p 37 hl (by omega) _ rfl h1 h2 h3 hS' hu)
  | 38, _ => exact op104 v l p W Q _ o ho hd hS (fun W' hS' hu => RInv.quiet v _ l p 38 hl (by omega) _ rfl h1 h2 h3 hS' hu)
  | 39, _ => exact op105 v l p W Q _ o ho hd hn4 ha4 hb4 hS (fun W' hS' hu => RInv.quiet v _ l p 39 hl (by omega) _ rfl h1 h2 h3 hS' hu)
  | 40, _ => exact op106 v hv l p W Q _ o ho hd hS (fun W' hS' hu => RInv.quiet v _ l p 40 hl (by omega) _ rfl h1 h2 h3 hS' hu)
  | 41, _ => exact op107 v l p W Q _ o ho hd hS (fun W' hS' hu => RInv.quiet v _ l p 41 hl (by omega) _ rfl h1 h2 h3 hS' hu)
  | 42, _ => exact op108 v l p W Q _ o ho hd hS (fun W' hS' hu => RInv.quiet v _ l p 42 hl (by omega) _ rfl h1 h2 h3 hS' hu)
  | 43, _ => exact op109 v hv l p W Q _ o ho hd hS (fun W' hS' hu => RInv.quiet v _ l p 43 hl (by omega) _ rfl h1 h2 h3 hS' hu)
  | 44, _ => exact op110 v l p W Q _ o ho hd hS (fun W' hS' hu => RInv.quiet v _ l p 44 hl (by omega) _ rfl h1 h2 h3 hS' hu)
  | 45, _ => exact op111 v l p W Q _ o ho hd hS (fun W' hS' hu => RInv.quiet v _ l p 45 hl (by omega) _ rfl h1 h2 h3 hS' hu)
  | 46, _ => exact op112 v l p W Q _ o ho hd hn5 ha5 hb5 hS (fun W' hS' hu => RInv.quiet v _ l p 46 hl (by omega) _ rfl h1 h2 h3 hS' hu)
  | 47, _ => exact op113 v hv l p W Q _ o ho hd hS (fun W' hS' hu => RInv.quiet v _ l p 47 hl (by omega) _ rfl h1 h2 h3 hS' hu)
  | 48, _ => exact op114 v l p W Q _ o ho hd hS (fun W' hS' hu => RInv.quiet v _ l p 48 hl (by omega) _ rfl h1 h2 h3 hS' hu)
  | 49, _ => exact op115 v l p W Q _ o ho hd hS (fun W' hS' hu => RInv.quiet v _ l p 49 hl (by omega) _ rfl h1 h2 h3 hS' hu)
  | 50, _ => exact op116 v hv l p W Q _ o ho hd hS (fun W' hS' hu => RInv.quiet v _ l p 50 hl (by omega) _ rfl h1 h2 h3 hS' hu)
  | 51, _ => exact op117 v l p W Q _ o ho hd hS (fun W' hS' hu => RInv.quiet v _ l p 51 hl (by omega) _ rfl h1 h2 h3 hS' hu)
  | 52, _ => exact op118 v l p W Q _ o ho hd hS (fun W' hS' hu => RInv.quiet v _ l p 52 hl (by omega) _ rfl h1 h2 h3 hS' hu)
  | 53, _ => exact op119 v l p W Q _ o ho hd hn6 ha6 hb6 hS (fun W' hS' hu => RInv.quiet v _ l p 53 hl (by omega) _ rfl h1 h2 h3 hS' hu)
  | 54, _ => exact op120 v hv l p W Q _ o ho hd hS (fun W' hS' hu => RInv.quiet v _ l p 54 hl (by omega) _ rfl h1 h2 h3 hS' hu)
  | 55, _ => exact op121 v l p W Q _ o ho hd hS (fun W' hS' hu => RInv.quiet v _ l p 55 hl (by omega) _ rfl h1 h2 h3 hS' hu)
  | 56, _ => exact op122 v l p W Q _ o ho hd hS (fun W' hS' hu => RInv.quiet v _ l p 56 hl (by omega) _ rfl h1 h2 h3 hS' hu)
  | 57, _ => exact op123 v hv l p W Q _ o ho hd hS (fun W' hS' hu => RInv.quiet v _ l p 57 hl (by omega) _ rfl h1 h2 h3 hS' hu)
  | 58, _ => exact op124 v l p W Q _ o ho hd hS (fun W' hS' hu => RInv.quiet v _ l p 58 hl (by omega) _ rfl h1 h2 h3 hS' hu)
  | 59, _ => exact op125 v l p W Q _ o ho hd hS (fun W' hS' hu => RInv.quiet v _ l p 59 hl (by omega) _ rfl h1 h2 h3 hS' hu)
  | 60, _ => exact op126 v l p W Q _ o ho hd hn7 ha7 hb7 hS (fun W' hS' hu => RInv.quiet v _ l p 60 hl (by omega) _ rfl h1 h2 h3 hS' hu)
  | 61, _ => exact op127 v hv l p W Q _ o ho hd hS (fun W' hS' hu => RInv.quiet v _ l p 61 hl (by omega) _ rfl h1 h2 h3 hS' hu)
  | 62, _ => exact op128 v l p W Q _ o ho hd hS (fun W' hS' hu => RInv.quiet v _ l p 62 hl (by omega) _ rfl h1 h2 h3 hS' hu)
  | 63, _ => exact op129 v l p W Q _ o ho hd hS (fun W' hS' hu => RInv.quiet v _ l p 63 hl (by omega) _ rfl h1 h2 h3 hS' hu)
  | 64, _ => exact op130 v hv l p W Q _ o ho hd hS (fun W' hS' hu => RInv.quiet v _ l p 64 hl (by omega) _ rfl h1 h2 h3 hS' hu)
  | 65, _ => exact op131 v l p W Q _ o ho hd hS (fun W' hS' hu => RInv.quiet v _ l p 65 hl (by omega) _ rfl h1 h2 h3 hS' hu)
  | 66, _ => exact op132 v l p W Q _ o ho hd hS (fun W' hS' hu => RInv.quiet v _ l p 66 hl (by omega) _ rfl h1 h2 h3 hS' hu)
  | 67, _ => exact op133 v l p W Q _ o ho hd hn8 ha8 hb8 hS (fun W' hS' hu => RInv.quiet v _ l p 67 hl (by omega) _ rfl h1 h2 h3 hS' hu)
  | 68, _ => exact op134 v l p W Q _ o ho hd hS (fun W' hS' hu => RInv.quiet v _ l p 68 hl (by omega) _ rfl h1 h2 h3 hS' hu)
  | 69, _ => exact op135 v hv l p W Q _ o ho hd hS (fun W' hS' hu => RInv.quiet v _ l p 69 hl (by omega) _ rfl h1 h2 h3 hS' hu)
  | 70, _ => exact op136 v l p W Q _ o ho hd hS (fun W' hS' hu => RInv.quiet v _ l p 70 hl (by omega) _ rfl h1 h2 h3 hS' hu)
  | 71, _ => exact op137 v hv l p W Q _ o ho hd hS (fun W' hS' hu => RInv.quiet v _ l p 71 hl (by omega) _ rfl h1 h2 h3 hS' hu)
  | 72, _ => exact op138 v l p W Q _ o ho hd hS (fun W' hS' hu => RInv.quiet v _ l p 72 hl (by omega) _ rfl h1 h2 h3 hS' hu)
  | 73, _ => exact op139 v hv l p W Q _ o ho hd hS (fun W' hS' hu => RInv.quiet v _ l p 73 hl (by omega) _ rfl h1 h2 h3 hS' hu)
  | 74, _ => exact op140 v l p W Q _ o ho hd hS (fun W' hS' hu => RInv.quiet v _ l p 74 hl (by omega) _ rfl h1 h2 h3 hS' hu)
  | 75, _ => exact op141 v hv l p W Q _ o ho hd hS (fun W' hS' hu => RInv.quiet v _ l p 75 hl (by omega) _ rfl h1 h2 h3 hS' hu)
  | 76, _ => exact op142 v l p W Q _ o ho hd hS (fun W' hS' hu => RInv.quiet v _ l p 76 hl (by omega) _ rfl h1 h2 h3 hS' hu)
  | 77, _ => exact op143 v hv l p W Q _ o ho hd hS (fun W' hS' hu => RInv.quiet v _ l p 77 hl (by omega) _ rfl h1 h2 h3 hS' hu)
  | 78, _ => exact op144 v l p W Q _ o ho hd hS (fun W' hS' hu => RInv.quiet v _ l p 78 hl (by omega) _ rfl h1 h2 h3 hS' hu)
  | 79, _ => exact op145 v hv l p W Q _ o ho hd hS (fun W' hS' hu => RInv.quiet v _ l p 79 hl (by omega) _ rfl h1 h2 h3 hS' hu)
  | 80, _ => exact op146 v l p W Q _ o ho hd hS (fun W' hS' hu => RInv.quiet v _ l p 80 hl (by omega) _ rfl h1 h2 h3 hS' hu)
  | 81, _ => exact op147 v hv l p W Q _ o ho hd hS (fun W' hS' hu => RInv.quiet v _ l p 81 hl (by omega) _ rfl h1 h2 h3 hS' hu)
  | 82, _ => exact op148 v l p W Q _ o ho hd hS (fun W' hS' hu => RInv.quiet v _ l p 82 hl (by omega) _ rfl h1 h2 h3 hS' hu)
  | 83, _ => exact op149 v l p W Q _ o ho hd hS (fun W' hS' hu => RInv.quiet v _ l p 83 hl (by omega) _ rfl h1 h2 h3 hS' hu)
  | 84, _ => exact op150 v hv l p W Q _ o ho hd hS (fun W' hS' hu => RInv.quiet v _ l p 84 hl (by omega) _ rfl h1 h2 h3 hS' hu)
  | 85, _ => exact op151 v l p W Q _ o ho hd hS (fun W' hS' hu => RInv.quiet v _ l p 85 hl (by omega) _ rfl h1 h2 h3 hS' hu)
  | 86, _ => exact op152 v hv l p W Q _ o ho hd hS (fun W' hS' hu => RInv.quiet v _ l p 86 hl (by omega) _ rfl h1 h2 h3 hS' hu)
  | 87, _ => exact op153 v l p W Q _ o ho hd hS (fun W' hS' hu => RInv.quiet v _ l p 87 hl (by omega) _ rfl h1 h2 h3 hS' hu)
  | 88, _ => exact op154 v hv l p W Q _ o ho hd hS (fun W' hS' hu => RInv.quiet v _ l p 88 hl (by omega) _ rfl h1 h2 h3 hS' hu)
  | 89, _ => exact op155 v l p W Q _ o ho hd hS (fun W' hS' hu => RInv.quiet v _ l p 89 hl (by omega) _ rfl h1 h2 h3 hS' hu)
  | 90, _ => exact op156 v l p W Q _ o ho hd hS (fun W' hS' hu => RInv.quiet v _ l p 90 hl (by omega) _ rfl h1 h2 h3 hS' hu)
  | 91, _ =>
    have hz : l.getD 92 false = false := by
      cases hc : l.getD 92 false
      · rfl
      · have := h3 hc
        simp [Array.getD, hl] at h0 this
        rw [h0] at this; exact absurd this (by simp)
    refine op_alloc v l p W Q _ o ho ⟨W.heap.size, actOf_put91 v _ l p W.heap.size hl, EvS.alloc hS _, fun _ => ⟨there_z50 W, ?_, ?_⟩, fun h => ?_, fun h => ?_⟩
    · obtain ⟨u, hu⟩ := Option.isSome_iff_exists.1 (hS.2.2.2.2.2.2.2.2.2.2.2.2.2.2.2.2.2.2.2.2.2.2.2.2.2.2.2.2.2.2.2 0 (by omega)).1
      exact World.block_lt_of_cell? W _ hu
    · exact (hS.2.2.2.2.2.2.2.2.2.2.2.2.2.2.2.2.2.2.2.2.2.2.2.2.2.2.2.2.2.2.1).y1.lt
    · rw [getD_set (by omega), if_neg (by omega), hz] at h; exact absurd h (by simp)
    · rw [getD_set (by omega), if_neg (by omega), hz] at h; exact absurd h (by simp)
  | 92, _ =>
    have h91 : l.getD 91 false = true := by
      have ht : (opsR[92]?).map (fun o => chk o [91]) = some true := by kernel_rfl
      rw [ho] at ht
      exact dep_chk (by simpa using ht) hd 91 (by simp)
    have hp := h1 h91
    refine op_store v l p W Q _ o ho hd hp.1 ⟨p, actOf_set92 v _ l p hl, EvS.put hS p hp.2.2 _, fun _ => ⟨World.there_setCells hp.1 _ _ _, hp.2⟩, fun _ => World.rangeAt_setCells_same W p 0 _ hp.1, fun _ => ?_⟩
    rw [getD_set (by omega), if_neg (by omega)]; exact h91
  | n + 93, h => omega

theorem opsR_ok (i : Nat) (o : Oper) (ho : opsR[i]? = some o) : (∀ e ∈ o.after, e.on < i) ∧ o.guard = none := by
  have hi : i < 93 := by rw [← opsR_size]; exact (Array.getElem?_eq_some_iff.1 ho).1
  have h := List.all_eq_true.1 opsR_back i (List.mem_range.2 hi)
  rw [ho] at h
  simp only [Bool.and_eq_true, Array.all_eq_true_iff_forall_mem, decide_eq_true_eq, Option.isNone_iff_eq_none] at h
  exact h

theorem region11' {w wr : World} {A : Nat → Value} {ec : List Value} {N G Pr x0 x1 x2 x3 x4 x5 d0 d1 d2 d3 d4 d5 d6 d7 d8 p0 p1 p2 p3 p4 p5 p6 p7 p8 : Int} {n0 n1 n2 n3 n4 n5 n6 n7 n8 : Nat} {sc fo pe : Bool} (hn0 : p0 % 20 = ((n0 : Nat) : Int)) (ha0 : 0 ≤ p0) (hb0 : p0 ≤ 255) (hn1 : p1 % 20 = ((n1 : Nat) : Int)) (ha1 : 0 ≤ p1) (hb1 : p1 ≤ 255) (hn2 : p2 % 20 = ((n2 : Nat) : Int)) (ha2 : 0 ≤ p2) (hb2 : p2 ≤ 255) (hn3 : p3 % 20 = ((n3 : Nat) : Int)) (ha3 : 0 ≤ p3) (hb3 : p3 ≤ 255) (hn4 : p4 % 20 = ((n4 : Nat) : Int)) (ha4 : 0 ≤ p4) (hb4 : p4 ≤ 255) (hn5 : p5 % 20 = ((n5 : Nat) : Int)) (ha5 : 0 ≤ p5) (hb5 : p5 ≤ 255) (hn6 : p6 % 20 = ((n6 : Nat) : Int)) (ha6 : 0 ≤ p6) (hb6 : p6 ≤ 255) (hn7 : p7 % 20 = ((n7 : Nat) : Int)) (ha7 : 0 ≤ p7) (hb7 : p7 ≤ 255) (hn8 : p8 % 20 = ((n8 : Nat) : Int)) (ha8 : 0 ≤ p8) (hb8 : p8 ≤ 255) (K : Act → World → Prop) (Q0 : Exit → Act → World → Prop) (v : Nat → Value) (hv : v 5 = .pointer (some ⟨w.heap.size + 1, 0, none⟩)) (wz : World) (hS : EvS w wr A ec N G Pr x0 x1 x2 x3 x4 x5 d0 d1 d2 d3 d4 d5 d6 d7 d8 p0 p1 p2 p3 p4 p5 p6 p7 p8 sc fo pe wz)
    (hK : ∀ (a : Nat) (wc : World), wr.heap.size < a → Held w wc A ec A → wc.there wr.heap.size 0 30 → wc.rangeAt a 0 [.int .i64 N, .int .u64 d0, .int .u8 ((n0 : Nat) : Int), .int .i64 G, .int .u64 d1, .int .u8 ((n1 : Nat) : Int), .int .u64 d2, .int .u8 ((n2 : Nat) : Int), .int .u64 d3, .int .u8 ((n3 : Nat) : Int), .int .u64 d4, .int .u8 ((n4 : Nat) : Int), .int .u64 d5, .int .u8 ((n5 : Nat) : Int), .int .u64 d6, .int .u8 ((n6 : Nat) : Int), .int .u64 d7, .int .u8 ((n7 : Nat) : Int), .int .u64 d8, .int .u8 ((n8 : Nat) : Int), .int .i64 x0, .int .i64 x1, .int .i64 x2, .int .i64 x3, .int .i64 x4, .int .i64 x5, .bool sc, .int .i64 Pr, .bool fo, .bool pe] → K (actF v (rv (w.heap.size + 1) N G Pr x0 x1 x2 x3 x4 x5 d0 d1 d2 d3 d4 d5 d6 d7 d8 n0 n1 n2 n3 n4 n5 n6 n7 n8 p0 p1 p2 p3 p4 p5 p6 p7 p8 sc fo pe) a) wc) :
    Code.wp Ybad.prog (.region 11 opsR true) (Exit.then K Q0) (actOf v (rv (w.heap.size + 1) N G Pr x0 x1 x2 x3 x4 x5 d0 d1 d2 d3 d4 d5 d6 d7 d8 n0 n1 n2 n3 n4 n5 n6 n7 n8 p0 p1 p2 p3 p4 p5 p6 p7 p8 sc fo pe) (Array.replicate 93 false) 0) wz := by
  refine wp_region_any (by kernel_rfl) ?_
  rw [opsR_size]
  refine wpAny_inv (RInv w wr A ec N G Pr x0 x1 x2 x3 x4 x5 d0 d1 d2 d3 d4 d5 d6 d7 d8 p0 p1 p2 p3 p4 p5 p6 p7 p8 n0 n1 n2 n3 n4 n5 n6 n7 n8 sc fo pe v) (fun i o ho => (opsR_ok i o ho).1) (fun i o ho => (opsR_ok i o ho).2) (fun l a W i o hI hl h0 ho hd => op_any hn0 ha0 hb0 hn1 ha1 hb1 hn2 ha2 hb2 hn3 ha3 hb3 hn4 ha4 hb4 hn5 ha5 hb5 hn6 ha6 hb6 hn7 ha7 hb7 hn8 ha8 hb8 v hv _ l a W i o hI (hl.trans opsR_size) h0 ho hd) (fun l a W hI hl hall => ?_) 93 _ _ _ ⟨0, rfl, EvS.drew hS, fun h => ?_, fun h => ?_, fun h => ?_⟩ (by rw [opsR_size]; simp) (by simp)
  · obtain ⟨p, rfl, hS', h1, h2, _⟩ := hI
    rw [opsR_size] at hall
    rw [actOf_all v _ l p hall]
    exact hK p W (h1 (hall 91 (by omega))).2.1 (hS'.2.2.2.2.2.2.2.2.2.2.2.2.2.2.2.2.2.2.2.2.2.2.2.2.2.2.2.2.2.2.1) (hS'.2.2.2.2.2.2.2.2.2.2.2.2.2.2.2.2.2.2.2.2.2.2.2.2.2.2.2.2.2.2.2) (h2 (hall 92 (by omega)))
  · simp at h
  · simp at h
  · simp at h
end Go.Proofs.YbulkdhacDoor
