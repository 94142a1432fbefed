/-
  The operations of the region that builds the event.
-/
import Derived.Test.YbulkdhacDoorInv
namespace Go.Proofs.YbulkdhacDoor
open Go.RowKit Floats

/-- what the operations yield. -/
def rv (e0 : Nat) (N G Pr x0 x1 x2 x3 x4 x5 d0 d1 d2 d3 d4 d5 d6 d7 d8 : Int) (n0 n1 n2 n3 n4 n5 n6 n7 n8 : Nat) (p0 p1 p2 p3 p4 p5 p6 p7 p8 : Int) (sc fo pe : Bool) : List Value := [.pointer (some ⟨e0, 0, none⟩), .int .i64 N, .pointer (some ⟨e0, 3, none⟩), .pointer (some ⟨e0, 3, none⟩), .int .u64 d0, .pointer (some ⟨e0, 12, none⟩), .pointer (some ⟨e0, 12, none⟩), .int .u8 p0, .agg #[.int .u64 d0, .int .u8 ((n0 : Nat) : Int)], .pointer (some ⟨e0, 1, none⟩), .int .i64 G, .pointer (some ⟨e0, 3, none⟩), .pointer (some ⟨e0, 4, none⟩), .int .u64 d1, .pointer (some ⟨e0, 12, none⟩), .pointer (some ⟨e0, 13, none⟩), .int .u8 p1, .agg #[.int .u64 d1, .int .u8 ((n1 : Nat) : Int)], .pointer (some ⟨e0, 3, none⟩), .pointer (some ⟨e0, 5, none⟩), .int .u64 d2, .pointer (some ⟨e0, 12, none⟩), .pointer (some ⟨e0, 14, none⟩), .int .u8 p2, .agg #[.int .u64 d2, .int .u8 ((n2 : Nat) : Int)], .pointer (some ⟨e0, 3, none⟩), .pointer (some ⟨e0, 6, none⟩), .int .u64 d3, .pointer (some ⟨e0, 12, none⟩), .pointer (some ⟨e0, 15, none⟩), .int .u8 p3, .agg #[.int .u64 d3, .int .u8 ((n3 : Nat) : Int)], .agg #[.int .u64 d1, .int .u8 ((n1 : Nat) : Int), .int .u64 d2, .int .u8 ((n2 : Nat) : Int), .int .u64 d3, .int .u8 ((n3 : Nat) : Int)], .pointer (some ⟨e0, 3, none⟩), .pointer (some ⟨e0, 7, none⟩), .int .u64 d4, .pointer (some ⟨e0, 12, none⟩), .pointer (some ⟨e0, 16, none⟩), .int .u8 p4, .agg #[.int .u64 d4, .int .u8 ((n4 : Nat) : Int)], .pointer (some ⟨e0, 3, none⟩), .pointer (some ⟨e0, 8, none⟩), .int .u64 d5, .pointer (some ⟨e0, 12, none⟩), .pointer (some ⟨e0, 17, none⟩), .int .u8 p5, .agg #[.int .u64 d5, .int .u8 ((n5 : Nat) : Int)], .pointer (some ⟨e0, 3, none⟩), .pointer (some ⟨e0, 9, none⟩), .int .u64 d6, .pointer (some ⟨e0, 12, none⟩), .pointer (some ⟨e0, 18, none⟩), .int .u8 p6, .agg #[.int .u64 d6, .int .u8 ((n6 : Nat) : Int)], .pointer (some ⟨e0, 3, none⟩), .pointer (some ⟨e0, 10, none⟩), .int .u64 d7, .pointer (some ⟨e0, 12, none⟩), .pointer (some ⟨e0, 19, none⟩), .int .u8 p7, .agg #[.int .u64 d7, .int .u8 ((n7 : Nat) : Int)], .pointer (some ⟨e0, 3, none⟩), .pointer (some ⟨e0, 11, none⟩), .int .u64 d8, .pointer (some ⟨e0, 12, none⟩), .pointer (some ⟨e0, 20, none⟩), .int .u8 p8, .agg #[.int .u64 d8, .int .u8 ((n8 : Nat) : Int)], .agg #[.int .u64 d4, .int .u8 ((n4 : Nat) : Int), .int .u64 d5, .int .u8 ((n5 : Nat) : Int), .int .u64 d6, .int .u8 ((n6 : Nat) : Int), .int .u64 d7, .int .u8 ((n7 : Nat) : Int), .int .u64 d8, .int .u8 ((n8 : Nat) : Int)], .pointer (some ⟨e0, 21, none⟩), .int .i64 x0, .pointer (some ⟨e0, 22, none⟩), .int .i64 x1, .pointer (some ⟨e0, 23, none⟩), .int .i64 x2, .pointer (some ⟨e0, 24, none⟩), .int .i64 x3, .pointer (some ⟨e0, 25, none⟩), .int .i64 x4, .pointer (some ⟨e0, 26, none⟩), .int .i64 x5, .pointer (some ⟨e0, 27, none⟩), .bool sc, .agg #[.int .i64 x0, .int .i64 x1, .int .i64 x2, .int .i64 x3, .int .i64 x4, .int .i64 x5, .bool sc], .pointer (some ⟨e0, 2, none⟩), .int .i64 Pr, .pointer (some ⟨e0, 28, none⟩), .bool fo, .pointer (some ⟨e0, 29, none⟩), .bool pe, .agg #[.int .i64 N, .int .u64 d0, .int .u8 ((n0 : Nat) : Int), .int .i64 G, .int .u64 d1, .int .u8 ((n1 : Nat) : Int), .int .u64 d2, .int .u8 ((n2 : Nat) : Int), .int .u64 d3, .int .u8 ((n3 : Nat) : Int), .int .u64 d4, .int .u8 ((n4 : Nat) : Int), .int .u64 d5, .int .u8 ((n5 : Nat) : Int), .int .u64 d6, .int .u8 ((n6 : Nat) : Int), .int .u64 d7, .int .u8 ((n7 : Nat) : Int), .int .u64 d8, .int .u8 ((n8 : Nat) : Int), .int .i64 x0, .int .i64 x1, .int .i64 x2, .int .i64 x3, .int .i64 x4, .int .i64 x5, .bool sc, .int .i64 Pr, .bool fo, .bool pe]]
def fr (v : Nat → Value) (V : List Value) (l : Array Bool) (p : Nat) (x : Nat) : Value :=
  if x = 11 then (if l.getD 91 false = true then .pointer (some ⟨p, 0, none⟩) else v 11)
  else if 66 ≤ x ∧ x < 157 then (if l.getD (x - 66) false = true then V.getD (x - 66) undef else v x)
  else v x
def actOf (v : Nat → Value) (V : List Value) (l : Array Bool) (p : Nat) : Act := ⟨((List.range 405).map (fr v V l p)).toArray, []⟩
theorem actOf_get (v : Nat → Value) (V : List Value) (l : Array Bool) (p x : Nat) (hx : x < 405) : (actOf v V l p).tmps[x]? = some (fr v V l p x) := by
  unfold actOf; simp [hx]
theorem getD_set {l : Array Bool} {i j : Nat} (hi : i < l.size) (d : Bool) : (l.setIfInBounds i true).getD j d = if j = i then true else l.getD j d := by
  simp only [Array.getD_eq_getD_getElem?, Array.getElem?_setIfInBounds]
  by_cases e : j = i
  · subst e; simp [hi]
  · have e' : ¬ i = j := fun x => e x.symm
    simp [e, e']
theorem fr_set (v : Nat → Value) (V : List Value) (l : Array Bool) (p i x : Nat) (hl : l.size = 93) (hi : i < 91) : fr v V (l.setIfInBounds i true) p x = if x = 66 + i then V.getD i undef else fr v V l p x := by
  have h91 : (l.setIfInBounds i true).getD 91 false = l.getD 91 false := by rw [getD_set (by omega), if_neg (by omega)]
  by_cases e : x = 66 + i
  · subst e
    rw [if_pos rfl]
    unfold fr
    have h2 : (l.setIfInBounds i true).getD (66 + i - 66) false = true := by rw [getD_set (by omega), if_pos (by omega)]
    rw [if_neg (by omega), if_pos (by omega), if_pos h2, show 66 + i - 66 = i from by omega]
  · rw [if_neg e]
    unfold fr
    rw [h91]
    by_cases h2 : 66 ≤ x ∧ x < 157
    · have h3 : (l.setIfInBounds i true).getD (x - 66) false = l.getD (x - 66) false := by rw [getD_set (by omega), if_neg (by omega)]
      rw [h3]
    · simp only [h2, if_false]
theorem actOf_put (v : Nat → Value) (V : List Value) (l : Array Bool) (p i : Nat) (hl : l.size = 93) (hi : i < 91) (val : Value) (hv : V.getD i undef = val) : (actOf v V l p).put (some (66 + i)) val = actOf v V (l.setIfInBounds i true) p := by
  unfold actOf Act.put
  simp only [Act.mk.injEq, and_true]
  apply Array.ext_getElem?
  intro x
  simp only [Array.getElem?_setIfInBounds]
  by_cases hx : x < 405
  · by_cases e : 66 + i = x
    · subst e
      simp [hx, fr_set v V l p i _ hl hi, ← hv]
    · have e' : ¬ x = 66 + i := fun h => e h.symm
      rw [if_neg e]
      simp [hx, fr_set v V l p i _ hl hi, e']
  · by_cases e : 66 + i = x
    · omega
    · rw [if_neg e]; simp [hx]

def chk (o : Oper) (js : List Nat) : Bool := js.all fun j => o.after.any fun e => Region.binds .any e && e.on == j
def depT : List (List Nat) := [[], [0], [], [2], [3], [], [5], [6], [4, 7], [], [9], [], [11], [12], [], [14], [15], [13, 16], [], [18], [19], [], [21], [22], [20, 23], [], [25], [26], [], [28], [29], [27, 30], [17, 24, 31], [], [33], [34], [], [36], [37], [35, 38], [], [40], [41], [], [43], [44], [42, 45], [], [47], [48], [], [50], [51], [49, 52], [], [54], [55], [], [57], [58], [56, 59], [], [61], [62], [], [64], [65], [63, 66], [39, 46, 53, 60, 67], [], [69], [], [71], [], [73], [], [75], [], [77], [], [79], [], [81], [70, 72, 74, 76, 78, 80, 82], [], [84], [], [86], [], [88], [1, 8, 10, 32, 68, 83, 85, 87, 89]]
def tabL : List (Option Tmp × Op × Bool) := [(some 66, .fieldAddr 33 (.tmp 5) 0, true), (some 67, .load 3 (.tmp 66), true), (some 68, .fieldAddr 33 (.tmp 5) 3, true), (some 69, .indexAddr 30 (.tmp 68) (.const (.int .i64 0)), true), (some 70, .load 29 (.tmp 69), true), (some 71, .fieldAddr 33 (.tmp 5) 4, true), (some 72, .indexAddr 31 (.tmp 71) (.const (.int .i64 0)), true), (some 73, .load 5 (.tmp 72), true), (some 74, .call { callee := .value (.func 4), args := #[.tmp 70, .tmp 73], argTypes := #[29, 5] }, true), (some 75, .fieldAddr 33 (.tmp 5) 1, true), (some 76, .load 3 (.tmp 75), true), (some 77, .fieldAddr 33 (.tmp 5) 3, true), (some 78, .indexAddr 30 (.tmp 77) (.const (.int .i64 1)), true), (some 79, .load 29 (.tmp 78), true), (some 80, .fieldAddr 33 (.tmp 5) 4, true), (some 81, .indexAddr 31 (.tmp 80) (.const (.int .i64 1)), true), (some 82, .load 5 (.tmp 81), true), (some 83, .call { callee := .value (.func 4), args := #[.tmp 79, .tmp 82], argTypes := #[29, 5] }, true), (some 84, .fieldAddr 33 (.tmp 5) 3, true), (some 85, .indexAddr 30 (.tmp 84) (.const (.int .i64 2)), true), (some 86, .load 29 (.tmp 85), true), (some 87, .fieldAddr 33 (.tmp 5) 4, true), (some 88, .indexAddr 31 (.tmp 87) (.const (.int .i64 2)), true), (some 89, .load 5 (.tmp 88), true), (some 90, .call { callee := .value (.func 4), args := #[.tmp 86, .tmp 89], argTypes := #[29, 5] }, true), (some 91, .fieldAddr 33 (.tmp 5) 3, true), (some 92, .indexAddr 30 (.tmp 91) (.const (.int .i64 3)), true), (some 93, .load 29 (.tmp 92), true), (some 94, .fieldAddr 33 (.tmp 5) 4, true), (some 95, .indexAddr 31 (.tmp 94) (.const (.int .i64 3)), true), (some 96, .load 5 (.tmp 95), true), (some 97, .call { callee := .value (.func 4), args := #[.tmp 93, .tmp 96], argTypes := #[29, 5] }, true), (some 98, .build 44 #[(0, .tmp 83), (1, .tmp 90), (2, .tmp 97)], true), (some 99, .fieldAddr 33 (.tmp 5) 3, true), (some 100, .indexAddr 30 (.tmp 99) (.const (.int .i64 4)), true), (some 101, .load 29 (.tmp 100), true), (some 102, .fieldAddr 33 (.tmp 5) 4, true), (some 103, .indexAddr 31 (.tmp 102) (.const (.int .i64 4)), true), (some 104, .load 5 (.tmp 103), true), (some 105, .call { callee := .value (.func 4), args := #[.tmp 101, .tmp 104], argTypes := #[29, 5] }, true), (some 106, .fieldAddr 33 (.tmp 5) 3, true), (some 107, .indexAddr 30 (.tmp 106) (.const (.int .i64 5)), true), (some 108, .load 29 (.tmp 107), true), (some 109, .fieldAddr 33 (.tmp 5) 4, true), (some 110, .indexAddr 31 (.tmp 109) (.const (.int .i64 5)), true), (some 111, .load 5 (.tmp 110), true), (some 112, .call { callee := .value (.func 4), args := #[.tmp 108, .tmp 111], argTypes := #[29, 5] }, true), (some 113, .fieldAddr 33 (.tmp 5) 3, true), (some 114, .indexAddr 30 (.tmp 113) (.const (.int .i64 6)), true), (some 115, .load 29 (.tmp 114), true), (some 116, .fieldAddr 33 (.tmp 5) 4, true), (some 117, .indexAddr 31 (.tmp 116) (.const (.int .i64 6)), true), (some 118, .load 5 (.tmp 117), true), (some 119, .call { callee := .value (.func 4), args := #[.tmp 115, .tmp 118], argTypes := #[29, 5] }, true), (some 120, .fieldAddr 33 (.tmp 5) 3, true), (some 121, .indexAddr 30 (.tmp 120) (.const (.int .i64 7)), true), (some 122, .load 29 (.tmp 121), true), (some 123, .fieldAddr 33 (.tmp 5) 4, true), (some 124, .indexAddr 31 (.tmp 123) (.const (.int .i64 7)), true), (some 125, .load 5 (.tmp 124), true), (some 126, .call { callee := .value (.func 4), args := #[.tmp 122, .tmp 125], argTypes := #[29, 5] }, true), (some 127, .fieldAddr 33 (.tmp 5) 3, true), (some 128, .indexAddr 30 (.tmp 127) (.const (.int .i64 8)), true), (some 129, .load 29 (.tmp 128), true), (some 130, .fieldAddr 33 (.tmp 5) 4, true), (some 131, .indexAddr 31 (.tmp 130) (.const (.int .i64 8)), true), (some 132, .load 5 (.tmp 131), true), (some 133, .call { callee := .value (.func 4), args := #[.tmp 129, .tmp 132], argTypes := #[29, 5] }, true), (some 134, .build 46 #[(0, .tmp 105), (1, .tmp 112), (2, .tmp 119), (3, .tmp 126), (4, .tmp 133)], true), (some 135, .fieldAddr 33 (.tmp 5) 5, true), (some 136, .load 3 (.tmp 135), true), (some 137, .fieldAddr 33 (.tmp 5) 6, true), (some 138, .load 3 (.tmp 137), true), (some 139, .fieldAddr 33 (.tmp 5) 7, true), (some 140, .load 3 (.tmp 139), true), (some 141, .fieldAddr 33 (.tmp 5) 8, true), (some 142, .load 3 (.tmp 141), true), (some 143, .fieldAddr 33 (.tmp 5) 9, true), (some 144, .load 3 (.tmp 143), true), (some 145, .fieldAddr 33 (.tmp 5) 10, true), (some 146, .load 3 (.tmp 145), true), (some 147, .fieldAddr 33 (.tmp 5) 11, true), (some 148, .load 4 (.tmp 147), true), (some 149, .build 48 #[(0, .tmp 136), (1, .tmp 138), (2, .tmp 140), (3, .tmp 142), (4, .tmp 144), (5, .tmp 146), (6, .tmp 148)], true), (some 150, .fieldAddr 33 (.tmp 5) 2, true), (some 151, .load 3 (.tmp 150), true), (some 152, .fieldAddr 33 (.tmp 5) 12, true), (some 153, .load 4 (.tmp 152), true), (some 154, .fieldAddr 33 (.tmp 5) 13, true), (some 155, .load 4 (.tmp 154), true), (some 156, .build 50 #[(0, .tmp 67), (1, .tmp 74), (2, .tmp 76), (3, .tmp 98), (4, .tmp 134), (5, .tmp 149), (6, .tmp 151), (7, .tmp 153), (8, .tmp 155)], true)]
theorem opsTab : List.zipWith (fun (o : Oper) js => (o.dst, o.op, chk o js)) opsR.toList depT = tabL := by kernel_rfl
theorem tab_spec {o : Oper} {i : Nat} {x : Option Tmp × Op × Bool} {js : List Nat} (hx : tabL[i]? = some x) (hj : depT[i]? = some js) (ho : opsR[i]? = some o) : o.dst = x.1 ∧ o.op = x.2.1 ∧ chk o js = x.2.2 := by
  rw [← opsTab, List.getElem?_zipWith] at hx
  rw [Array.getElem?_toList, ho, hj] at hx
  simp only [Option.some.injEq] at hx
  subst hx
  exact ⟨rfl, rfl, rfl⟩
theorem dep_chk {o : Oper} {l : Array Bool} {js : List Nat} (hk : chk o js = true) (hd : ∀ e ∈ o.after, Region.binds .any e = true → l.getD e.on false = true) : ∀ j ∈ js, l.getD j false = true := by
  intro j hj
  unfold chk at hk
  have h := List.all_eq_true.1 hk j hj
  simp only [Array.any_eq_true', Bool.and_eq_true, beq_iff_eq] at h
  obtain ⟨e, he, hb, hj⟩ := h
  rw [← hj]; exact hd e he hb
theorem actOf_dep' (v : Nat → Value) (V : List Value) (l : Array Bool) (p x : Nat) (val : Value) (h1 : 66 ≤ x) (h2 : x < 157) (hd : l.getD (x - 66) false = true) (hv : V.getD (x - 66) undef = val) : (actOf v V l p).tmps[x]? = some val := by
  rw [actOf_get v V l p x (by omega)]; unfold fr
  rw [if_neg (by omega), if_pos ⟨h1, h2⟩, if_pos hd, hv]
theorem actOf_five' (v : Nat → Value) (V : List Value) (l : Array Bool) (p : Nat) : (actOf v V l p).tmps[5]? = some (v 5) := by
  rw [actOf_get v V l p 5 (by omega)]; unfold fr
  rw [if_neg (by omega), if_neg (by omega)]
set_option maxHeartbeats 1000000 in
theorem op66 {w wr : World} {A : Nat → Value} {ec : List Value} {N G Pr x0 x1 x2 x3 x4 x5 d0 d1 d2 d3 d4 d5 d6 d7 d8 p0 p1 p2 p3 p4 p5 p6 p7 p8 : Int} {n0 n1 n2 n3 n4 n5 n6 n7 n8 : Nat} {sc fo pe : Bool} (v : Nat → Value) (hv : v 5 = .pointer (some ⟨w.heap.size + 1, 0, none⟩)) (l : Array Bool) (p : Nat) (W : World) (Q : Exit → Act → World → Prop) (K : Act → World → Prop) (o : Oper) (ho : opsR[0]? = some o) (hd : ∀ e ∈ o.after, Region.binds .any e = true → l.getD e.on false = true)
    (hS : EvS w wr A ec N G Pr x0 x1 x2 x3 x4 x5 d0 d1 d2 d3 d4 d5 d6 d7 d8 p0 p1 p2 p3 p4 p5 p6 p7 p8 sc fo pe W) (hK : ∀ W', EvS w wr A ec N G Pr x0 x1 x2 x3 x4 x5 d0 d1 d2 d3 d4 d5 d6 d7 d8 p0 p1 p2 p3 p4 p5 p6 p7 p8 sc fo pe W' → Below W.heap.size W W' → K ((actOf v (rv (w.heap.size + 1) N G Pr x0 x1 x2 x3 x4 x5 d0 d1 d2 d3 d4 d5 d6 d7 d8 n0 n1 n2 n3 n4 n5 n6 n7 n8 p0 p1 p2 p3 p4 p5 p6 p7 p8 sc fo pe) l p).put (some 66) (.pointer (some ⟨w.heap.size + 1, 0, none⟩))) W') : o.wp Ybad.prog (actOf v (rv (w.heap.size + 1) N G Pr x0 x1 x2 x3 x4 x5 d0 d1 d2 d3 d4 d5 d6 d7 d8 n0 n1 n2 n3 n4 n5 n6 n7 n8 p0 p1 p2 p3 p4 p5 p6 p7 p8 sc fo pe) l p) W K Q := by
  obtain ⟨ht1, ht2, ht3⟩ := tab_spec (i := 0) rfl rfl ho
  have hdp := dep_chk ht3 hd
  have e5 := actOf_five' v (rv (w.heap.size + 1) N G Pr x0 x1 x2 x3 x4 x5 d0 d1 d2 d3 d4 d5 d6 d7 d8 n0 n1 n2 n3 n4 n5 n6 n7 n8 p0 p1 p2 p3 p4 p5 p6 p7 p8 sc fo pe) l p
  rw [hv] at e5
  clear hv

  clear hdp hd ho ht3
  generalize actOf v (rv (w.heap.size + 1) N G Pr x0 x1 x2 x3 x4 x5 d0 d1 d2 d3 d4 d5 d6 d7 d8 n0 n1 n2 n3 n4 n5 n6 n7 n8 p0 p1 p2 p3 p4 p5 p6 p7 p8 sc fo pe) l p = a at *
  obtain ⟨odst, oop, oty, opos, oaft, og⟩ := o
  obtain rfl : odst = some 66 := ht1
  obtain rfl : oop = .fieldAddr 33 (.tmp 5) 0 := ht2
  have hK1 := hK W hS (Below.refl _ _)
  clear hK
  unfold Oper.wp execOp
  go_simp
  exact hK1
set_option maxHeartbeats 1000000 in
theorem op67 {w wr : World} {A : Nat → Value} {ec : List Value} {N G Pr x0 x1 x2 x3 x4 x5 d0 d1 d2 d3 d4 d5 d6 d7 d8 p0 p1 p2 p3 p4 p5 p6 p7 p8 : Int} {n0 n1 n2 n3 n4 n5 n6 n7 n8 : Nat} {sc fo pe : Bool} (v : Nat → Value) (l : Array Bool) (p : Nat) (W : World) (Q : Exit → Act → World → Prop) (K : Act → World → Prop) (o : Oper) (ho : opsR[1]? = some o) (hd : ∀ e ∈ o.after, Region.binds .any e = true → l.getD e.on false = true)
    (hS : EvS w wr A ec N G Pr x0 x1 x2 x3 x4 x5 d0 d1 d2 d3 d4 d5 d6 d7 d8 p0 p1 p2 p3 p4 p5 p6 p7 p8 sc fo pe W) (hK : ∀ W', EvS w wr A ec N G Pr x0 x1 x2 x3 x4 x5 d0 d1 d2 d3 d4 d5 d6 d7 d8 p0 p1 p2 p3 p4 p5 p6 p7 p8 sc fo pe W' → Below W.heap.size W W' → K ((actOf v (rv (w.heap.size + 1) N G Pr x0 x1 x2 x3 x4 x5 d0 d1 d2 d3 d4 d5 d6 d7 d8 n0 n1 n2 n3 n4 n5 n6 n7 n8 p0 p1 p2 p3 p4 p5 p6 p7 p8 sc fo pe) l p).put (some 67) (.int .i64 N)) W') : o.wp Ybad.prog (actOf v (rv (w.heap.size + 1) N G Pr x0 x1 x2 x3 x4 x5 d0 d1 d2 d3 d4 d5 d6 d7 d8 n0 n1 n2 n3 n4 n5 n6 n7 n8 p0 p1 p2 p3 p4 p5 p6 p7 p8 sc fo pe) l p) W K Q := by
  obtain ⟨ht1, ht2, ht3⟩ := tab_spec (i := 1) rfl rfl ho
  have hdp := dep_chk ht3 hd
  have h66 : (actOf v (rv (w.heap.size + 1) N G Pr x0 x1 x2 x3 x4 x5 d0 d1 d2 d3 d4 d5 d6 d7 d8 n0 n1 n2 n3 n4 n5 n6 n7 n8 p0 p1 p2 p3 p4 p5 p6 p7 p8 sc fo pe) l p).tmps[66]? = some (.pointer (some ⟨w.heap.size + 1, 0, none⟩)) := actOf_dep' v _ l p 66 _ (by omega) (by omega) (hdp 0 (by simp)) rfl
  clear hdp hd ho ht3
  generalize actOf v (rv (w.heap.size + 1) N G Pr x0 x1 x2 x3 x4 x5 d0 d1 d2 d3 d4 d5 d6 d7 d8 n0 n1 n2 n3 n4 n5 n6 n7 n8 p0 p1 p2 p3 p4 p5 p6 p7 p8 sc fo pe) l p = a at *
  obtain ⟨odst, oop, oty, opos, oaft, og⟩ := o
  obtain rfl : odst = some 67 := ht1
  obtain rfl : oop = .load 3 (.tmp 66) := ht2
  have hK1 := hK W hS (Below.refl _ _)
  have hc : W.cell? ⟨w.heap.size + 1, 0, none⟩ = some (.int .i64 N) := hS.1
  clear hK
  unfold Oper.wp execOp
  go_simp
  exact hK1
set_option maxHeartbeats 1000000 in
theorem op68 {w wr : World} {A : Nat → Value} {ec : List Value} {N G Pr x0 x1 x2 x3 x4 x5 d0 d1 d2 d3 d4 d5 d6 d7 d8 p0 p1 p2 p3 p4 p5 p6 p7 p8 : Int} {n0 n1 n2 n3 n4 n5 n6 n7 n8 : Nat} {sc fo pe : Bool} (v : Nat → Value) (hv : v 5 = .pointer (some ⟨w.heap.size + 1, 0, none⟩)) (l : Array Bool) (p : Nat) (W : World) (Q : Exit → Act → World → Prop) (K : Act → World → Prop) (o : Oper) (ho : opsR[2]? = some o) (hd : ∀ e ∈ o.after, Region.binds .any e = true → l.getD e.on false = true)
    (hS : EvS w wr A ec N G Pr x0 x1 x2 x3 x4 x5 d0 d1 d2 d3 d4 d5 d6 d7 d8 p0 p1 p2 p3 p4 p5 p6 p7 p8 sc fo pe W) (hK : ∀ W', EvS w wr A ec N G Pr x0 x1 x2 x3 x4 x5 d0 d1 d2 d3 d4 d5 d6 d7 d8 p0 p1 p2 p3 p4 p5 p6 p7 p8 sc fo pe W' → Below W.heap.size W W' → K ((actOf v (rv (w.heap.size + 1) N G Pr x0 x1 x2 x3 x4 x5 d0 d1 d2 d3 d4 d5 d6 d7 d8 n0 n1 n2 n3 n4 n5 n6 n7 n8 p0 p1 p2 p3 p4 p5 p6 p7 p8 sc fo pe) l p).put (some 68) (.pointer (some ⟨w.heap.size + 1, 3, none⟩))) W') : o.wp Ybad.prog (actOf v (rv (w.heap.size + 1) N G Pr x0 x1 x2 x3 x4 x5 d0 d1 d2 d3 d4 d5 d6 d7 d8 n0 n1 n2 n3 n4 n5 n6 n7 n8 p0 p1 p2 p3 p4 p5 p6 p7 p8 sc fo pe) l p) W K Q := by
  obtain ⟨ht1, ht2, ht3⟩ := tab_spec (i := 2) rfl rfl ho
  have hdp := dep_chk ht3 hd
  have e5 := actOf_five' v (rv (w.heap.size + 1) N G Pr x0 x1 x2 x3 x4 x5 d0 d1 d2 d3 d4 d5 d6 d7 d8 n0 n1 n2 n3 n4 n5 n6 n7 n8 p0 p1 p2 p3 p4 p5 p6 p7 p8 sc fo pe) l p
  rw [hv] at e5
  clear hv

  clear hdp hd ho ht3
  generalize actOf v (rv (w.heap.size + 1) N G Pr x0 x1 x2 x3 x4 x5 d0 d1 d2 d3 d4 d5 d6 d7 d8 n0 n1 n2 n3 n4 n5 n6 n7 n8 p0 p1 p2 p3 p4 p5 p6 p7 p8 sc fo pe) l p = a at *
  obtain ⟨odst, oop, oty, opos, oaft, og⟩ := o
  obtain rfl : odst = some 68 := ht1
  obtain rfl : oop = .fieldAddr 33 (.tmp 5) 3 := ht2
  have hK1 := hK W hS (Below.refl _ _)
  clear hK
  unfold Oper.wp execOp
  go_simp
  exact hK1
set_option maxHeartbeats 1000000 in
theorem op69 {w wr : World} {A : Nat → Value} {ec : List Value} {N G Pr x0 x1 x2 x3 x4 x5 d0 d1 d2 d3 d4 d5 d6 d7 d8 p0 p1 p2 p3 p4 p5 p6 p7 p8 : Int} {n0 n1 n2 n3 n4 n5 n6 n7 n8 : Nat} {sc fo pe : Bool} (v : Nat → Value) (l : Array Bool) (p : Nat) (W : World) (Q : Exit → Act → World → Prop) (K : Act → World → Prop) (o : Oper) (ho : opsR[3]? = some o) (hd : ∀ e ∈ o.after, Region.binds .any e = true → l.getD e.on false = true)
    (hS : EvS w wr A ec N G Pr x0 x1 x2 x3 x4 x5 d0 d1 d2 d3 d4 d5 d6 d7 d8 p0 p1 p2 p3 p4 p5 p6 p7 p8 sc fo pe W) (hK : ∀ W', EvS w wr A ec N G Pr x0 x1 x2 x3 x4 x5 d0 d1 d2 d3 d4 d5 d6 d7 d8 p0 p1 p2 p3 p4 p5 p6 p7 p8 sc fo pe W' → Below W.heap.size W W' → K ((actOf v (rv (w.heap.size + 1) N G Pr x0 x1 x2 x3 x4 x5 d0 d1 d2 d3 d4 d5 d6 d7 d8 n0 n1 n2 n3 n4 n5 n6 n7 n8 p0 p1 p2 p3 p4 p5 p6 p7 p8 sc fo pe) l p).put (some 69) (.pointer (some ⟨w.heap.size + 1, 3, none⟩))) W') : o.wp Ybad.prog (actOf v (rv (w.heap.size + 1) N G Pr x0 x1 x2 x3 x4 x5 d0 d1 d2 d3 d4 d5 d6 d7 d8 n0 n1 n2 n3 n4 n5 n6 n7 n8 p0 p1 p2 p3 p4 p5 p6 p7 p8 sc fo pe) l p) W K Q := by
  obtain ⟨ht1, ht2, ht3⟩ := tab_spec (i := 3) rfl rfl ho
  have hdp := dep_chk ht3 hd
  have h68 : (actOf v (rv (w.heap.size + 1) N G Pr x0 x1 x2 x3 x4 x5 d0 d1 d2 d3 d4 d5 d6 d7 d8 n0 n1 n2 n3 n4 n5 n6 n7 n8 p0 p1 p2 p3 p4 p5 p6 p7 p8 sc fo pe) l p).tmps[68]? = some (.pointer (some ⟨w.heap.size + 1, 3, none⟩)) := actOf_dep' v _ l p 68 _ (by omega) (by omega) (hdp 2 (by simp)) rfl
  clear hdp hd ho ht3
  generalize actOf v (rv (w.heap.size + 1) N G Pr x0 x1 x2 x3 x4 x5 d0 d1 d2 d3 d4 d5 d6 d7 d8 n0 n1 n2 n3 n4 n5 n6 n7 n8 p0 p1 p2 p3 p4 p5 p6 p7 p8 sc fo pe) l p = a at *
  obtain ⟨odst, oop, oty, opos, oaft, og⟩ := o
  obtain rfl : odst = some 69 := ht1
  obtain rfl : oop = .indexAddr 30 (.tmp 68) (.const (.int .i64 0)) := ht2
  have hK1 := hK W hS (Below.refl _ _)
  clear hK
  unfold Oper.wp execOp
  go_simp
  exact hK1
set_option maxHeartbeats 1000000 in
theorem op70 {w wr : World} {A : Nat → Value} {ec : List Value} {N G Pr x0 x1 x2 x3 x4 x5 d0 d1 d2 d3 d4 d5 d6 d7 d8 p0 p1 p2 p3 p4 p5 p6 p7 p8 : Int} {n0 n1 n2 n3 n4 n5 n6 n7 n8 : Nat} {sc fo pe : Bool} (v : Nat → Value) (l : Array Bool) (p : Nat) (W : World) (Q : Exit → Act → World → Prop) (K : Act → World → Prop) (o : Oper) (ho : opsR[4]? = some o) (hd : ∀ e ∈ o.after, Region.binds .any e = true → l.getD e.on false = true)
    (hS : EvS w wr A ec N G Pr x0 x1 x2 x3 x4 x5 d0 d1 d2 d3 d4 d5 d6 d7 d8 p0 p1 p2 p3 p4 p5 p6 p7 p8 sc fo pe W) (hK : ∀ W', EvS w wr A ec N G Pr x0 x1 x2 x3 x4 x5 d0 d1 d2 d3 d4 d5 d6 d7 d8 p0 p1 p2 p3 p4 p5 p6 p7 p8 sc fo pe W' → Below W.heap.size W W' → K ((actOf v (rv (w.heap.size + 1) N G Pr x0 x1 x2 x3 x4 x5 d0 d1 d2 d3 d4 d5 d6 d7 d8 n0 n1 n2 n3 n4 n5 n6 n7 n8 p0 p1 p2 p3 p4 p5 p6 p7 p8 sc fo pe) l p).put (some 70) (.int .u64 d0)) W') : o.wp Ybad.prog (actOf v (rv (w.heap.size + 1) N G Pr x0 x1 x2 x3 x4 x5 d0 d1 d2 d3 d4 d5 d6 d7 d8 n0 n1 n2 n3 n4 n5 n6 n7 n8 p0 p1 p2 p3 p4 p5 p6 p7 p8 sc fo pe) l p) W K Q := by
  obtain ⟨ht1, ht2, ht3⟩ := tab_spec (i := 4) rfl rfl ho
  have hdp := dep_chk ht3 hd
  have h69 : (actOf v (rv (w.heap.size + 1) N G Pr x0 x1 x2 x3 x4 x5 d0 d1 d2 d3 d4 d5 d6 d7 d8 n0 n1 n2 n3 n4 n5 n6 n7 n8 p0 p1 p2 p3 p4 p5 p6 p7 p8 sc fo pe) l p).tmps[69]? = some (.pointer (some ⟨w.heap.size + 1, 3, none⟩)) := actOf_dep' v _ l p 69 _ (by omega) (by omega) (hdp 3 (by simp)) rfl
  clear hdp hd ho ht3
  generalize actOf v (rv (w.heap.size + 1) N G Pr x0 x1 x2 x3 x4 x5 d0 d1 d2 d3 d4 d5 d6 d7 d8 n0 n1 n2 n3 n4 n5 n6 n7 n8 p0 p1 p2 p3 p4 p5 p6 p7 p8 sc fo pe) l p = a at *
  obtain ⟨odst, oop, oty, opos, oaft, og⟩ := o
  obtain rfl : odst = some 70 := ht1
  obtain rfl : oop = .load 29 (.tmp 69) := ht2
  have hK1 := hK W hS (Below.refl _ _)
  have hc : W.cell? ⟨w.heap.size + 1, 3, none⟩ = some (.int .u64 d0) := hS.2.2.2.1
  clear hK
  unfold Oper.wp execOp
  go_simp
  exact hK1
set_option maxHeartbeats 1000000 in
theorem op71 {w wr : World} {A : Nat → Value} {ec : List Value} {N G Pr x0 x1 x2 x3 x4 x5 d0 d1 d2 d3 d4 d5 d6 d7 d8 p0 p1 p2 p3 p4 p5 p6 p7 p8 : Int} {n0 n1 n2 n3 n4 n5 n6 n7 n8 : Nat} {sc fo pe : Bool} (v : Nat → Value) (hv : v 5 = .pointer (some ⟨w.heap.size + 1, 0, none⟩)) (l : Array Bool) (p : Nat) (W : World) (Q : Exit → Act → World → Prop) (K : Act → World → Prop) (o : Oper) (ho : opsR[5]? = some o) (hd : ∀ e ∈ o.after, Region.binds .any e = true → l.getD e.on false = true)
    (hS : EvS w wr A ec N G Pr x0 x1 x2 x3 x4 x5 d0 d1 d2 d3 d4 d5 d6 d7 d8 p0 p1 p2 p3 p4 p5 p6 p7 p8 sc fo pe W) (hK : ∀ W', EvS w wr A ec N G Pr x0 x1 x2 x3 x4 x5 d0 d1 d2 d3 d4 d5 d6 d7 d8 p0 p1 p2 p3 p4 p5 p6 p7 p8 sc fo pe W' → Below W.heap.size W W' → K ((actOf v (rv (w.heap.size + 1) N G Pr x0 x1 x2 x3 x4 x5 d0 d1 d2 d3 d4 d5 d6 d7 d8 n0 n1 n2 n3 n4 n5 n6 n7 n8 p0 p1 p2 p3 p4 p5 p6 p7 p8 sc fo pe) l p).put (some 71) (.pointer (some ⟨w.heap.size + 1, 12, none⟩))) W') : o.wp Ybad.prog (actOf v (rv (w.heap.size + 1) N G Pr x0 x1 x2 x3 x4 x5 d0 d1 d2 d3 d4 d5 d6 d7 d8 n0 n1 n2 n3 n4 n5 n6 n7 n8 p0 p1 p2 p3 p4 p5 p6 p7 p8 sc fo pe) l p) W K Q := by
  obtain ⟨ht1, ht2, ht3⟩ := tab_spec (i := 5) rfl rfl ho
  have hdp := dep_chk ht3 hd
  have e5 := actOf_five' v (rv (w.heap.size + 1) N G Pr x0 x1 x2 x3 x4 x5 d0 d1 d2 d3 d4 d5 d6 d7 d8 n0 n1 n2 n3 n4 n5 n6 n7 n8 p0 p1 p2 p3 p4 p5 p6 p7 p8 sc fo pe) l p
  rw [hv] at e5
  clear hv

  clear hdp hd ho ht3
  generalize actOf v (rv (w.heap.size + 1) N G Pr x0 x1 x2 x3 x4 x5 d0 d1 d2 d3 d4 d5 d6 d7 d8 n0 n1 n2 n3 n4 n5 n6 n7 n8 p0 p1 p2 p3 p4 p5 p6 p7 p8 sc fo pe) l p = a at *
  obtain ⟨odst, oop, oty, opos, oaft, og⟩ := o
  obtain rfl : odst = some 71 := ht1
  obtain rfl : oop = .fieldAddr 33 (.tmp 5) 4 := ht2
  have hK1 := hK W hS (Below.refl _ _)
  clear hK
  unfold Oper.wp execOp
  go_simp
  exact hK1
set_option maxHeartbeats 1000000 in
theorem op72 {w wr : World} {A : Nat → Value} {ec : List Value} {N G Pr x0 x1 x2 x3 x4 x5 d0 d1 d2 d3 d4 d5 d6 d7 d8 p0 p1 p2 p3 p4 p5 p6 p7 p8 : Int} {n0 n1 n2 n3 n4 n5 n6 n7 n8 : Nat} {sc fo pe : Bool} (v : Nat → Value) (l : Array Bool) (p : Nat) (W : World) (Q : Exit → Act → World → Prop) (K : Act → World → Prop) (o : Oper) (ho : opsR[6]? = some o) (hd : ∀ e ∈ o.after, Region.binds .any e = true → l.getD e.on false = true)
    (hS : EvS w wr A ec N G Pr x0 x1 x2 x3 x4 x5 d0 d1 d2 d3 d4 d5 d6 d7 d8 p0 p1 p2 p3 p4 p5 p6 p7 p8 sc fo pe W) (hK : ∀ W', EvS w wr A ec N G Pr x0 x1 x2 x3 x4 x5 d0 d1 d2 d3 d4 d5 d6 d7 d8 p0 p1 p2 p3 p4 p5 p6 p7 p8 sc fo pe W' → Below W.heap.size W W' → K ((actOf v (rv (w.heap.size + 1) N G Pr x0 x1 x2 x3 x4 x5 d0 d1 d2 d3 d4 d5 d6 d7 d8 n0 n1 n2 n3 n4 n5 n6 n7 n8 p0 p1 p2 p3 p4 p5 p6 p7 p8 sc fo pe) l p).put (some 72) (.pointer (some ⟨w.heap.size + 1, 12, none⟩))) W') : o.wp Ybad.prog (actOf v (rv (w.heap.size + 1) N G Pr x0 x1 x2 x3 x4 x5 d0 d1 d2 d3 d4 d5 d6 d7 d8 n0 n1 n2 n3 n4 n5 n6 n7 n8 p0 p1 p2 p3 p4 p5 p6 p7 p8 sc fo pe) l p) W K Q := by
  obtain ⟨ht1, ht2, ht3⟩ := tab_spec (i := 6) rfl rfl ho
  have hdp := dep_chk ht3 hd
  have h71 : (actOf v (rv (w.heap.size + 1) N G Pr x0 x1 x2 x3 x4 x5 d0 d1 d2 d3 d4 d5 d6 d7 d8 n0 n1 n2 n3 n4 n5 n6 n7 n8 p0 p1 p2 p3 p4 p5 p6 p7 p8 sc fo pe) l p).tmps[71]? = some (.pointer (some ⟨w.heap.size + 1, 12, none⟩)) := actOf_dep' v _ l p 71 _ (by omega) (by omega) (hdp 5 (by simp)) rfl
  clear hdp hd ho ht3
  generalize actOf v (rv (w.heap.size + 1) N G Pr x0 x1 x2 x3 x4 x5 d0 d1 d2 d3 d4 d5 d6 d7 d8 n0 n1 n2 n3 n4 n5 n6 n7 n8 p0 p1 p2 p3 p4 p5 p6 p7 p8 sc fo pe) l p = a at *
  obtain ⟨odst, oop, oty, opos, oaft, og⟩ := o
  obtain rfl : odst = some 72 := ht1
  obtain rfl : oop = .indexAddr 31 (.tmp 71) (.const (.int .i64 0)) := ht2
  have hK1 := hK W hS (Below.refl _ _)
  clear hK
  unfold Oper.wp execOp
  go_simp
  exact hK1
set_option maxHeartbeats 1000000 in
theorem op73 {w wr : World} {A : Nat → Value} {ec : List Value} {N G Pr x0 x1 x2 x3 x4 x5 d0 d1 d2 d3 d4 d5 d6 d7 d8 p0 p1 p2 p3 p4 p5 p6 p7 p8 : Int} {n0 n1 n2 n3 n4 n5 n6 n7 n8 : Nat} {sc fo pe : Bool} (v : Nat → Value) (l : Array Bool) (p : Nat) (W : World) (Q : Exit → Act → World → Prop) (K : Act → World → Prop) (o : Oper) (ho : opsR[7]? = some o) (hd : ∀ e ∈ o.after, Region.binds .any e = true → l.getD e.on false = true)
    (hS : EvS w wr A ec N G Pr x0 x1 x2 x3 x4 x5 d0 d1 d2 d3 d4 d5 d6 d7 d8 p0 p1 p2 p3 p4 p5 p6 p7 p8 sc fo pe W) (hK : ∀ W', EvS w wr A ec N G Pr x0 x1 x2 x3 x4 x5 d0 d1 d2 d3 d4 d5 d6 d7 d8 p0 p1 p2 p3 p4 p5 p6 p7 p8 sc fo pe W' → Below W.heap.size W W' → K ((actOf v (rv (w.heap.size + 1) N G Pr x0 x1 x2 x3 x4 x5 d0 d1 d2 d3 d4 d5 d6 d7 d8 n0 n1 n2 n3 n4 n5 n6 n7 n8 p0 p1 p2 p3 p4 p5 p6 p7 p8 sc fo pe) l p).put (some 73) (.int .u8 p0)) W') : o.wp Ybad.prog (actOf v (rv (w.heap.size + 1) N G Pr x0 x1 x2 x3 x4 x5 d0 d1 d2 d3 d4 d5 d6 d7 d8 n0 n1 n2 n3 n4 n5 n6 n7 n8 p0 p1 p2 p3 p4 p5 p6 p7 p8 sc fo pe) l p) W K Q := by
  obtain ⟨ht1, ht2, ht3⟩ := tab_spec (i := 7) rfl rfl ho
  have hdp := dep_chk ht3 hd
  have h72 : (actOf v (rv (w.heap.size + 1) N G Pr x0 x1 x2 x3 x4 x5 d0 d1 d2 d3 d4 d5 d6 d7 d8 n0 n1 n2 n3 n4 n5 n6 n7 n8 p0 p1 p2 p3 p4 p5 p6 p7 p8 sc fo pe) l p).tmps[72]? = some (.pointer (some ⟨w.heap.size + 1, 12, none⟩)) := actOf_dep' v _ l p 72 _ (by omega) (by omega) (hdp 6 (by simp)) rfl
  clear hdp hd ho ht3
  generalize actOf v (rv (w.heap.size + 1) N G Pr x0 x1 x2 x3 x4 x5 d0 d1 d2 d3 d4 d5 d6 d7 d8 n0 n1 n2 n3 n4 n5 n6 n7 n8 p0 p1 p2 p3 p4 p5 p6 p7 p8 sc fo pe) l p = a at *
  obtain ⟨odst, oop, oty, opos, oaft, og⟩ := o
  obtain rfl : odst = some 73 := ht1
  obtain rfl : oop = .load 5 (.tmp 72) := ht2
  have hK1 := hK W hS (Below.refl _ _)
  have hc : W.cell? ⟨w.heap.size + 1, 12, none⟩ = some (.int .u8 p0) := hS.2.2.2.2.2.2.2.2.2.2.2.2.1
  clear hK
  unfold Oper.wp execOp
  go_simp
  exact hK1
set_option maxHeartbeats 1000000 in
theorem op74 {w wr : World} {A : Nat → Value} {ec : List Value} {N G Pr x0 x1 x2 x3 x4 x5 d0 d1 d2 d3 d4 d5 d6 d7 d8 p0 p1 p2 p3 p4 p5 p6 p7 p8 : Int} {n0 n1 n2 n3 n4 n5 n6 n7 n8 : Nat} {sc fo pe : Bool} (v : Nat → Value) (l : Array Bool) (p : Nat) (W : World) (Q : Exit → Act → World → Prop) (K : Act → World → Prop) (o : Oper) (ho : opsR[8]? = some o) (hd : ∀ e ∈ o.after, Region.binds .any e = true → l.getD e.on false = true) (hn : p0 % 20 = ((n0 : Nat) : Int)) (ha : 0 ≤ p0) (hb : p0 ≤ 255)
    (hS : EvS w wr A ec N G Pr x0 x1 x2 x3 x4 x5 d0 d1 d2 d3 d4 d5 d6 d7 d8 p0 p1 p2 p3 p4 p5 p6 p7 p8 sc fo pe W) (hK : ∀ W', EvS w wr A ec N G Pr x0 x1 x2 x3 x4 x5 d0 d1 d2 d3 d4 d5 d6 d7 d8 p0 p1 p2 p3 p4 p5 p6 p7 p8 sc fo pe W' → Below W.heap.size W W' → K ((actOf v (rv (w.heap.size + 1) N G Pr x0 x1 x2 x3 x4 x5 d0 d1 d2 d3 d4 d5 d6 d7 d8 n0 n1 n2 n3 n4 n5 n6 n7 n8 p0 p1 p2 p3 p4 p5 p6 p7 p8 sc fo pe) l p).put (some 74) (.agg #[.int .u64 d0, .int .u8 ((n0 : Nat) : Int)])) W') : o.wp Ybad.prog (actOf v (rv (w.heap.size + 1) N G Pr x0 x1 x2 x3 x4 x5 d0 d1 d2 d3 d4 d5 d6 d7 d8 n0 n1 n2 n3 n4 n5 n6 n7 n8 p0 p1 p2 p3 p4 p5 p6 p7 p8 sc fo pe) l p) W K Q := by
  obtain ⟨ht1, ht2, ht3⟩ := tab_spec (i := 8) rfl rfl ho
  have hdp := dep_chk ht3 hd
  have h70 : (actOf v (rv (w.heap.size + 1) N G Pr x0 x1 x2 x3 x4 x5 d0 d1 d2 d3 d4 d5 d6 d7 d8 n0 n1 n2 n3 n4 n5 n6 n7 n8 p0 p1 p2 p3 p4 p5 p6 p7 p8 sc fo pe) l p).tmps[70]? = some (.int .u64 d0) := actOf_dep' v _ l p 70 _ (by omega) (by omega) (hdp 4 (by simp)) rfl
  have h73 : (actOf v (rv (w.heap.size + 1) N G Pr x0 x1 x2 x3 x4 x5 d0 d1 d2 d3 d4 d5 d6 d7 d8 n0 n1 n2 n3 n4 n5 n6 n7 n8 p0 p1 p2 p3 p4 p5 p6 p7 p8 sc fo pe) l p).tmps[73]? = some (.int .u8 p0) := actOf_dep' v _ l p 73 _ (by omega) (by omega) (hdp 7 (by simp)) rfl
  clear hdp hd ho ht3
  generalize actOf v (rv (w.heap.size + 1) N G Pr x0 x1 x2 x3 x4 x5 d0 d1 d2 d3 d4 d5 d6 d7 d8 n0 n1 n2 n3 n4 n5 n6 n7 n8 p0 p1 p2 p3 p4 p5 p6 p7 p8 sc fo pe) l p = a at *
  obtain ⟨odst, oop, oty, opos, oaft, og⟩ := o
  obtain rfl : odst = some 74 := ht1
  obtain rfl : oop = .call { callee := .value (.func 4), args := #[.tmp 70, .tmp 73], argTypes := #[29, 5] } := ht2
  have HC : Hid (p0 % 20 = ((n0 : Nat) : Int) ∧ 0 ≤ p0 ∧ p0 ≤ 255) := ⟨hn, ha, hb⟩
  clear hn ha hb
  unfold Oper.wp execOp
  go_simp
  refine (num_below d0 p0 n0 HC.out.1 HC.out.2.1 HC.out.2.2 W).mono ?_
  rintro en W' ⟨rfl, hu⟩
  exact hK W' (EvS.up hS hu) hu
set_option maxHeartbeats 1000000 in
theorem op75 {w wr : World} {A : Nat → Value} {ec : List Value} {N G Pr x0 x1 x2 x3 x4 x5 d0 d1 d2 d3 d4 d5 d6 d7 d8 p0 p1 p2 p3 p4 p5 p6 p7 p8 : Int} {n0 n1 n2 n3 n4 n5 n6 n7 n8 : Nat} {sc fo pe : Bool} (v : Nat → Value) (hv : v 5 = .pointer (some ⟨w.heap.size + 1, 0, none⟩)) (l : Array Bool) (p : Nat) (W : World) (Q : Exit → Act → World → Prop) (K : Act → World → Prop) (o : Oper) (ho : opsR[9]? = some o) (hd : ∀ e ∈ o.after, Region.binds .any e = true → l.getD e.on false = true)
    (hS : EvS w wr A ec N G Pr x0 x1 x2 x3 x4 x5 d0 d1 d2 d3 d4 d5 d6 d7 d8 p0 p1 p2 p3 p4 p5 p6 p7 p8 sc fo pe W) (hK : ∀ W', EvS w wr A ec N G Pr x0 x1 x2 x3 x4 x5 d0 d1 d2 d3 d4 d5 d6 d7 d8 p0 p1 p2 p3 p4 p5 p6 p7 p8 sc fo pe W' → Below W.heap.size W W' → K ((actOf v (rv (w.heap.size + 1) N G Pr x0 x1 x2 x3 x4 x5 d0 d1 d2 d3 d4 d5 d6 d7 d8 n0 n1 n2 n3 n4 n5 n6 n7 n8 p0 p1 p2 p3 p4 p5 p6 p7 p8 sc fo pe) l p).put (some 75) (.pointer (some ⟨w.heap.size + 1, 1, none⟩))) W') : o.wp Ybad.prog (actOf v (rv (w.heap.size + 1) N G Pr x0 x1 x2 x3 x4 x5 d0 d1 d2 d3 d4 d5 d6 d7 d8 n0 n1 n2 n3 n4 n5 n6 n7 n8 p0 p1 p2 p3 p4 p5 p6 p7 p8 sc fo pe) l p) W K Q := by
  obtain ⟨ht1, ht2, ht3⟩ := tab_spec (i := 9) rfl rfl ho
  have hdp := dep_chk ht3 hd
  have e5 := actOf_five' v (rv (w.heap.size + 1) N G Pr x0 x1 x2 x3 x4 x5 d0 d1 d2 d3 d4 d5 d6 d7 d8 n0 n1 n2 n3 n4 n5 n6 n7 n8 p0 p1 p2 p3 p4 p5 p6 p7 p8 sc fo pe) l p
  rw [hv] at e5
  clear hv

  clear hdp hd ho ht3
  generalize actOf v (rv (w.heap.size + 1) N G Pr x0 x1 x2 x3 x4 x5 d0 d1 d2 d3 d4 d5 d6 d7 d8 n0 n1 n2 n3 n4 n5 n6 n7 n8 p0 p1 p2 p3 p4 p5 p6 p7 p8 sc fo pe) l p = a at *
  obtain ⟨odst, oop, oty, opos, oaft, og⟩ := o
  obtain rfl : odst = some 75 := ht1
  obtain rfl : oop = .fieldAddr 33 (.tmp 5) 1 := ht2
  have hK1 := hK W hS (Below.refl _ _)
  clear hK
  unfold Oper.wp execOp
  go_simp
  exact hK1
set_option maxHeartbeats 1000000 in
theorem op76 {w wr : World} {A : Nat → Value} {ec : List Value} {N G Pr x0 x1 x2 x3 x4 x5 d0 d1 d2 d3 d4 d5 d6 d7 d8 p0 p1 p2 p3 p4 p5 p6 p7 p8 : Int} {n0 n1 n2 n3 n4 n5 n6 n7 n8 : Nat} {sc fo pe : Bool} (v : Nat → Value) (l : Array Bool) (p : Nat) (W : World) (Q : Exit → Act → World → Prop) (K : Act → World → Prop) (o : Oper) (ho : opsR[10]? = some o) (hd : ∀ e ∈ o.after, Region.binds .any e = true → l.getD e.on false = true)
    (hS : EvS w wr A ec N G Pr x0 x1 x2 x3 x4 x5 d0 d1 d2 d3 d4 d5 d6 d7 d8 p0 p1 p2 p3 p4 p5 p6 p7 p8 sc fo pe W) (hK : ∀ W', EvS w wr A ec N G Pr x0 x1 x2 x3 x4 x5 d0 d1 d2 d3 d4 d5 d6 d7 d8 p0 p1 p2 p3 p4 p5 p6 p7 p8 sc fo pe W' → Below W.heap.size W W' → K ((actOf v (rv (w.heap.size + 1) N G Pr x0 x1 x2 x3 x4 x5 d0 d1 d2 d3 d4 d5 d6 d7 d8 n0 n1 n2 n3 n4 n5 n6 n7 n8 p0 p1 p2 p3 p4 p5 p6 p7 p8 sc fo pe) l p).put (some 76) (.int .i64 G)) W') : o.wp Ybad.prog (actOf v (rv (w.heap.size + 1) N G Pr x0 x1 x2 x3 x4 x5 d0 d1 d2 d3 d4 d5 d6 d7 d8 n0 n1 n2 n3 n4 n5 n6 n7 n8 p0 p1 p2 p3 p4 p5 p6 p7 p8 sc fo pe) l p) W K Q := by
  obtain ⟨ht1, ht2, ht3⟩ := tab_spec (i := 10) rfl rfl ho
  have hdp := dep_chk ht3 hd
  have h75 : (actOf v (rv (w.heap.size + 1) N G Pr x0 x1 x2 x3 x4 x5 d0 d1 d2 d3 d4 d5 d6 d7 d8 n0 n1 n2 n3 n4 n5 n6 n7 n8 p0 p1 p2 p3 p4 p5 p6 p7 p8 sc fo pe) l p).tmps[75]? = some (.pointer (some ⟨w.heap.size + 1, 1, none⟩)) := actOf_dep' v _ l p 75 _ (by omega) (by omega) (hdp 9 (by simp)) rfl
  clear hdp hd ho ht3
  generalize actOf v (rv (w.heap.size + 1) N G Pr x0 x1 x2 x3 x4 x5 d0 d1 d2 d3 d4 d5 d6 d7 d8 n0 n1 n2 n3 n4 n5 n6 n7 n8 p0 p1 p2 p3 p4 p5 p6 p7 p8 sc fo pe) l p = a at *
  obtain ⟨odst, oop, oty, opos, oaft, og⟩ := o
  obtain rfl : odst = some 76 := ht1
  obtain rfl : oop = .load 3 (.tmp 75) := ht2
  have hK1 := hK W hS (Below.refl _ _)
  have hc : W.cell? ⟨w.heap.size + 1, 1, none⟩ = some (.int .i64 G) := hS.2.1
  clear hK
  unfold Oper.wp execOp
  go_simp
  exact hK1
set_option maxHeartbeats 1000000 in
theorem op77 {w wr : World} {A : Nat → Value} {ec : List Value} {N G Pr x0 x1 x2 x3 x4 x5 d0 d1 d2 d3 d4 d5 d6 d7 d8 p0 p1 p2 p3 p4 p5 p6 p7 p8 : Int} {n0 n1 n2 n3 n4 n5 n6 n7 n8 : Nat} {sc fo pe : Bool} (v : Nat → Value) (hv : v 5 = .pointer (some ⟨w.heap.size + 1, 0, none⟩)) (l : Array Bool) (p : Nat) (W : World) (Q : Exit → Act → World → Prop) (K : Act → World → Prop) (o : Oper) (ho : opsR[11]? = some o) (hd : ∀ e ∈ o.after, Region.binds .any e = true → l.getD e.on false = true)
    (hS : EvS w wr A ec N G Pr x0 x1 x2 x3 x4 x5 d0 d1 d2 d3 d4 d5 d6 d7 d8 p0 p1 p2 p3 p4 p5 p6 p7 p8 sc fo pe W) (hK : ∀ W', EvS w wr A ec N G Pr x0 x1 x2 x3 x4 x5 d0 d1 d2 d3 d4 d5 d6 d7 d8 p0 p1 p2 p3 p4 p5 p6 p7 p8 sc fo pe W' → Below W.heap.size W W' → K ((actOf v (rv (w.heap.size + 1) N G Pr x0 x1 x2 x3 x4 x5 d0 d1 d2 d3 d4 d5 d6 d7 d8 n0 n1 n2 n3 n4 n5 n6 n7 n8 p0 p1 p2 p3 p4 p5 p6 p7 p8 sc fo pe) l p).put (some 77) (.pointer (some ⟨w.heap.size + 1, 3, none⟩))) W') : o.wp Ybad.prog (actOf v (rv (w.heap.size + 1) N G Pr x0 x1 x2 x3 x4 x5 d0 d1 d2 d3 d4 d5 d6 d7 d8 n0 n1 n2 n3 n4 n5 n6 n7 n8 p0 p1 p2 p3 p4 p5 p6 p7 p8 sc fo pe) l p) W K Q := by
  obtain ⟨ht1, ht2, ht3⟩ := tab_spec (i := 11) rfl rfl ho
  have hdp := dep_chk ht3 hd
  have e5 := actOf_five' v (rv (w.heap.size + 1) N G Pr x0 x1 x2 x3 x4 x5 d0 d1 d2 d3 d4 d5 d6 d7 d8 n0 n1 n2 n3 n4 n5 n6 n7 n8 p0 p1 p2 p3 p4 p5 p6 p7 p8 sc fo pe) l p
  rw [hv] at e5
  clear hv

  clear hdp hd ho ht3
  generalize actOf v (rv (w.heap.size + 1) N G Pr x0 x1 x2 x3 x4 x5 d0 d1 d2 d3 d4 d5 d6 d7 d8 n0 n1 n2 n3 n4 n5 n6 n7 n8 p0 p1 p2 p3 p4 p5 p6 p7 p8 sc fo pe) l p = a at *
  obtain ⟨odst, oop, oty, opos, oaft, og⟩ := o
  obtain rfl : odst = some 77 := ht1
  obtain rfl : oop = .fieldAddr 33 (.tmp 5) 3 := ht2
  have hK1 := hK W hS (Below.refl _ _)
  clear hK
  unfold Oper.wp execOp
  go_simp
  exact hK1
set_option maxHeartbeats 1000000 in
theorem op78 {w wr : World} {A : Nat → Value} {ec : List Value} {N G Pr x0 x1 x2 x3 x4 x5 d0 d1 d2 d3 d4 d5 d6 d7 d8 p0 p1 p2 p3 p4 p5 p6 p7 p8 : Int} {n0 n1 n2 n3 n4 n5 n6 n7 n8 : Nat} {sc fo pe : Bool} (v : Nat → Value) (l : Array Bool) (p : Nat) (W : World) (Q : Exit → Act → World → Prop) (K : Act → World → Prop) (o : Oper) (ho : opsR[12]? = some o) (hd : ∀ e ∈ o.after, Region.binds .any e = true → l.getD e.on false = true)
    (hS : EvS w wr A ec N G Pr x0 x1 x2 x3 x4 x5 d0 d1 d2 d3 d4 d5 d6 d7 d8 p0 p1 p2 p3 p4 p5 p6 p7 p8 sc fo pe W) (hK : ∀ W', EvS w wr A ec N G Pr x0 x1 x2 x3 x4 x5 d0 d1 d2 d3 d4 d5 d6 d7 d8 p0 p1 p2 p3 p4 p5 p6 p7 p8 sc fo pe W' → Below W.heap.size W W' → K ((actOf v (rv (w.heap.size + 1) N G Pr x0 x1 x2 x3 x4 x5 d0 d1 d2 d3 d4 d5 d6 d7 d8 n0 n1 n2 n3 n4 n5 n6 n7 n8 p0 p1 p2 p3 p4 p5 p6 p7 p8 sc fo pe) l p).put (some 78) (.pointer (some ⟨w.heap.size + 1, 4, none⟩))) W') : o.wp Ybad.prog (actOf v (rv (w.heap.size + 1) N G Pr x0 x1 x2 x3 x4 x5 d0 d1 d2 d3 d4 d5 d6 d7 d8 n0 n1 n2 n3 n4 n5 n6 n7 n8 p0 p1 p2 p3 p4 p5 p6 p7 p8 sc fo pe) l p) W K Q := by
  obtain ⟨ht1, ht2, ht3⟩ := tab_spec (i := 12) rfl rfl ho
  have hdp := dep_chk ht3 hd
  have h77 : (actOf v (rv (w.heap.size + 1) N G Pr x0 x1 x2 x3 x4 x5 d0 d1 d2 d3 d4 d5 d6 d7 d8 n0 n1 n2 n3 n4 n5 n6 n7 n8 p0 p1 p2 p3 p4 p5 p6 p7 p8 sc fo pe) l p).tmps[77]? = some (.pointer (some ⟨w.heap.size + 1, 3, none⟩)) := actOf_dep' v _ l p 77 _ (by omega) (by omega) (hdp 11 (by simp)) rfl
  clear hdp hd ho ht3
  generalize actOf v (rv (w.heap.size + 1) N G Pr x0 x1 x2 x3 x4 x5 d0 d1 d2 d3 d4 d5 d6 d7 d8 n0 n1 n2 n3 n4 n5 n6 n7 n8 p0 p1 p2 p3 p4 p5 p6 p7 p8 sc fo pe) l p = a at *
  obtain ⟨odst, oop, oty, opos, oaft, og⟩ := o
  obtain rfl : odst = some 78 := ht1
  obtain rfl : oop = .indexAddr 30 (.tmp 77) (.const (.int .i64 1)) := ht2
  have hK1 := hK W hS (Below.refl _ _)
  clear hK
  unfold Oper.wp execOp
  go_simp
  exact hK1
set_option maxHeartbeats 1000000 in
theorem op79 {w wr : World} {A : Nat → Value} {ec : List Value} {N G Pr x0 x1 x2 x3 x4 x5 d0 d1 d2 d3 d4 d5 d6 d7 d8 p0 p1 p2 p3 p4 p5 p6 p7 p8 : Int} {n0 n1 n2 n3 n4 n5 n6 n7 n8 : Nat} {sc fo pe : Bool} (v : Nat → Value) (l : Array Bool) (p : Nat) (W : World) (Q : Exit → Act → World → Prop) (K : Act → World → Prop) (o : Oper) (ho : opsR[13]? = some o) (hd : ∀ e ∈ o.after, Region.binds .any e = true → l.getD e.on false = true)
    (hS : EvS w wr A ec N G Pr x0 x1 x2 x3 x4 x5 d0 d1 d2 d3 d4 d5 d6 d7 d8 p0 p1 p2 p3 p4 p5 p6 p7 p8 sc fo pe W) (hK : ∀ W', EvS w wr A ec N G Pr x0 x1 x2 x3 x4 x5 d0 d1 d2 d3 d4 d5 d6 d7 d8 p0 p1 p2 p3 p4 p5 p6 p7 p8 sc fo pe W' → Below W.heap.size W W' → K ((actOf v (rv (w.heap.size + 1) N G Pr x0 x1 x2 x3 x4 x5 d0 d1 d2 d3 d4 d5 d6 d7 d8 n0 n1 n2 n3 n4 n5 n6 n7 n8 p0 p1 p2 p3 p4 p5 p6 p7 p8 sc fo pe) l p).put (some 79) (.int .u64 d1)) W') : o.wp Ybad.prog (actOf v (rv (w.heap.size + 1) N G Pr x0 x1 x2 x3 x4 x5 d0 d1 d2 d3 d4 d5 d6 d7 d8 n0 n1 n2 n3 n4 n5 n6 n7 n8 p0 p1 p2 p3 p4 p5 p6 p7 p8 sc fo pe) l p) W K Q := by
  obtain ⟨ht1, ht2, ht3⟩ := tab_spec (i := 13) rfl rfl ho
  have hdp := dep_chk ht3 hd
  have h78 : (actOf v (rv (w.heap.size + 1) N G Pr x0 x1 x2 x3 x4 x5 d0 d1 d2 d3 d4 d5 d6 d7 d8 n0 n1 n2 n3 n4 n5 n6 n7 n8 p0 p1 p2 p3 p4 p5 p6 p7 p8 sc fo pe) l p).tmps[78]? = some (.pointer (some ⟨w.heap.size + 1, 4, none⟩)) := actOf_dep' v _ l p 78 _ (by omega) (by omega) (hdp 12 (by simp)) rfl
  clear hdp hd ho ht3
  generalize actOf v (rv (w.heap.size + 1) N G Pr x0 x1 x2 x3 x4 x5 d0 d1 d2 d3 d4 d5 d6 d7 d8 n0 n1 n2 n3 n4 n5 n6 n7 n8 p0 p1 p2 p3 p4 p5 p6 p7 p8 sc fo pe) l p = a at *
  obtain ⟨odst, oop, oty, opos, oaft, og⟩ := o
  obtain rfl : odst = some 79 := ht1
  obtain rfl : oop = .load 29 (.tmp 78) := ht2
  have hK1 := hK W hS (Below.refl _ _)
  have hc : W.cell? ⟨w.heap.size + 1, 4, none⟩ = some (.int .u64 d1) := hS.2.2.2.2.1
  clear hK
  unfold Oper.wp execOp
  go_simp
  exact hK1
set_option maxHeartbeats 1000000 in
theorem op80 {w wr : World} {A : Nat → Value} {ec : List Value} {N G Pr x0 x1 x2 x3 x4 x5 d0 d1 d2 d3 d4 d5 d6 d7 d8 p0 p1 p2 p3 p4 p5 p6 p7 p8 : Int} {n0 n1 n2 n3 n4 n5 n6 n7 n8 : Nat} {sc fo pe : Bool} (v : Nat → Value) (hv : v 5 = .pointer (some ⟨w.heap.size + 1, 0, none⟩)) (l : Array Bool) (p : Nat) (W : World) (Q : Exit → Act → World → Prop) (K : Act → World → Prop) (o : Oper) (ho : opsR[14]? = some o) (hd : ∀ e ∈ o.after, Region.binds .any e = true → l.getD e.on false = true)
    (hS : EvS w wr A ec N G Pr x0 x1 x2 x3 x4 x5 d0 d1 d2 d3 d4 d5 d6 d7 d8 p0 p1 p2 p3 p4 p5 p6 p7 p8 sc fo pe W) (hK : ∀ W', EvS w wr A ec N G Pr x0 x1 x2 x3 x4 x5 d0 d1 d2 d3 d4 d5 d6 d7 d8 p0 p1 p2 p3 p4 p5 p6 p7 p8 sc fo pe W' → Below W.heap.size W W' → K ((actOf v (rv (w.heap.size + 1) N G Pr x0 x1 x2 x3 x4 x5 d0 d1 d2 d3 d4 d5 d6 d7 d8 n0 n1 n2 n3 n4 n5 n6 n7 n8 p0 p1 p2 p3 p4 p5 p6 p7 p8 sc fo pe) l p).put (some 80) (.pointer (some ⟨w.heap.size + 1, 12, none⟩))) W') : o.wp Ybad.prog (actOf v (rv (w.heap.size + 1) N G Pr x0 x1 x2 x3 x4 x5 d0 d1 d2 d3 d4 d5 d6 d7 d8 n0 n1 n2 n3 n4 n5 n6 n7 n8 p0 p1 p2 p3 p4 p5 p6 p7 p8 sc fo pe) l p) W K Q := by
  obtain ⟨ht1, ht2, ht3⟩ := tab_spec (i := 14) rfl rfl ho
  have hdp := dep_chk ht3 hd
  have e5 := actOf_five' v (rv (w.heap.size + 1) N G Pr x0 x1 x2 x3 x4 x5 d0 d1 d2 d3 d4 d5 d6 d7 d8 n0 n1 n2 n3 n4 n5 n6 n7 n8 p0 p1 p2 p3 p4 p5 p6 p7 p8 sc fo pe) l p
  rw [hv] at e5
  clear hv

  clear hdp hd ho ht3
  generalize actOf v (rv (w.heap.size + 1) N G Pr x0 x1 x2 x3 x4 x5 d0 d1 d2 d3 d4 d5 d6 d7 d8 n0 n1 n2 n3 n4 n5 n6 n7 n8 p0 p1 p2 p3 p4 p5 p6 p7 p8 sc fo pe) l p = a at *
  obtain ⟨odst, oop, oty, opos, oaft, og⟩ := o
  obtain rfl : odst = some 80 := ht1
  obtain rfl : oop = .fieldAddr 33 (.tmp 5) 4 := ht2
  have hK1 := hK W hS (Below.refl _ _)
  clear hK
  unfold Oper.wp execOp
  go_simp
  exact hK1
set_option maxHeartbeats 1000000 in
theorem op81 {w wr : World} {A : Nat → Value} {ec : List Value} {N G Pr x0 x1 x2 x3 x4 x5 d0 d1 d2 d3 d4 d5 d6 d7 d8 p0 p1 p2 p3 p4 p5 p6 p7 p8 : Int} {n0 n1 n2 n3 n4 n5 n6 n7 n8 : Nat} {sc fo pe : Bool} (v : Nat → Value) (l : Array Bool) (p : Nat) (W : World) (Q : Exit → Act → World → Prop) (K : Act → World → Prop) (o : Oper) (ho : opsR[15]? = some o) (hd : ∀ e ∈ o.after, Region.binds .any e = true → l.getD e.on false = true)
    (hS : EvS w wr A ec N G Pr x0 x1 x2 x3 x4 x5 d0 d1 d2 d3 d4 d5 d6 d7 d8 p0 p1 p2 p3 p4 p5 p6 p7 p8 sc fo pe W) (hK : ∀ W', EvS w wr A ec N G Pr x0 x1 x2 x3 x4 x5 d0 d1 d2 d3 d4 d5 d6 d7 d8 p0 p1 p2 p3 p4 p5 p6 p7 p8 sc fo pe W' → Below W.heap.size W W' → K ((actOf v (rv (w.heap.size + 1) N G Pr x0 x1 x2 x3 x4 x5 d0 d1 d2 d3 d4 d5 d6 d7 d8 n0 n1 n2 n3 n4 n5 n6 n7 n8 p0 p1 p2 p3 p4 p5 p6 p7 p8 sc fo pe) l p).put (some 81) (.pointer (some ⟨w.heap.size + 1, 13, none⟩))) W') : o.wp Ybad.prog (actOf v (rv (w.heap.size + 1) N G Pr x0 x1 x2 x3 x4 x5 d0 d1 d2 d3 d4 d5 d6 d7 d8 n0 n1 n2 n3 n4 n5 n6 n7 n8 p0 p1 p2 p3 p4 p5 p6 p7 p8 sc fo pe) l p) W K Q := by
  obtain ⟨ht1, ht2, ht3⟩ := tab_spec (i := 15) rfl rfl ho
  have hdp := dep_chk ht3 hd
  have h80 : (actOf v (rv (w.heap.size + 1) N G Pr x0 x1 x2 x3 x4 x5 d0 d1 d2 d3 d4 d5 d6 d7 d8 n0 n1 n2 n3 n4 n5 n6 n7 n8 p0 p1 p2 p3 p4 p5 p6 p7 p8 sc fo pe) l p).tmps[80]? = some (.pointer (some ⟨w.heap.size + 1, 12, none⟩)) := actOf_dep' v _ l p 80 _ (by omega) (by omega) (hdp 14 (by simp)) rfl
  clear hdp hd ho ht3
  generalize actOf v (rv (w.heap.size + 1) N G Pr x0 x1 x2 x3 x4 x5 d0 d1 d2 d3 d4 d5 d6 d7 d8 n0 n1 n2 n3 n4 n5 n6 n7 n8 p0 p1 p2 p3 p4 p5 p6 p7 p8 sc fo pe) l p = a at *
  obtain ⟨odst, oop, oty, opos, oaft, og⟩ := o
  obtain rfl : odst = some 81 := ht1
  obtain rfl : oop = .indexAddr 31 (.tmp 80) (.const (.int .i64 1)) := ht2
  have hK1 := hK W hS (Below.refl _ _)
  clear hK
  unfold Oper.wp execOp
  go_simp
  exact hK1
set_option maxHeartbeats 1000000 in
theorem op82 {w wr : World} {A : Nat → Value} {ec : List Value} {N G Pr x0 x1 x2 x3 x4 x5 d0 d1 d2 d3 d4 d5 d6 d7 d8 p0 p1 p2 p3 p4 p5 p6 p7 p8 : Int} {n0 n1 n2 n3 n4 n5 n6 n7 n8 : Nat} {sc fo pe : Bool} (v : Nat → Value) (l : Array Bool) (p : Nat) (W : World) (Q : Exit → Act → World → Prop) (K : Act → World → Prop) (o : Oper) (ho : opsR[16]? = some o) (hd : ∀ e ∈ o.after, Region.binds .any e = true → l.getD e.on false = true)
    (hS : EvS w wr A ec N G Pr x0 x1 x2 x3 x4 x5 d0 d1 d2 d3 d4 d5 d6 d7 d8 p0 p1 p2 p3 p4 p5 p6 p7 p8 sc fo pe W) (hK : ∀ W', EvS w wr A ec N G Pr x0 x1 x2 x3 x4 x5 d0 d1 d2 d3 d4 d5 d6 d7 d8 p0 p1 p2 p3 p4 p5 p6 p7 p8 sc fo pe W' → Below W.heap.size W W' → K ((actOf v (rv (w.heap.size + 1) N G Pr x0 x1 x2 x3 x4 x5 d0 d1 d2 d3 d4 d5 d6 d7 d8 n0 n1 n2 n3 n4 n5 n6 n7 n8 p0 p1 p2 p3 p4 p5 p6 p7 p8 sc fo pe) l p).put (some 82) (.int .u8 p1)) W') : o.wp Ybad.prog (actOf v (rv (w.heap.size + 1) N G Pr x0 x1 x2 x3 x4 x5 d0 d1 d2 d3 d4 d5 d6 d7 d8 n0 n1 n2 n3 n4 n5 n6 n7 n8 p0 p1 p2 p3 p4 p5 p6 p7 p8 sc fo pe) l p) W K Q := by
  obtain ⟨ht1, ht2, ht3⟩ := tab_spec (i := 16) rfl rfl ho
  have hdp := dep_chk ht3 hd
  have h81 : (actOf v (rv (w.heap.size + 1) N G Pr x0 x1 x2 x3 x4 x5 d0 d1 d2 d3 d4 d5 d6 d7 d8 n0 n1 n2 n3 n4 n5 n6 n7 n8 p0 p1 p2 p3 p4 p5 p6 p7 p8 sc fo pe) l p).tmps[81]? = some (.pointer (some ⟨w.heap.size + 1, 13, none⟩)) := actOf_dep' v _ l p 81 _ (by omega) (by omega) (hdp 15 (by simp)) rfl
  clear hdp hd ho ht3
  generalize actOf v (rv (w.heap.size + 1) N G Pr x0 x1 x2 x3 x4 x5 d0 d1 d2 d3 d4 d5 d6 d7 d8 n0 n1 n2 n3 n4 n5 n6 n7 n8 p0 p1 p2 p3 p4 p5 p6 p7 p8 sc fo pe) l p = a at *
  obtain ⟨odst, oop, oty, opos, oaft, og⟩ := o
  obtain rfl : odst = some 82 := ht1
  obtain rfl : oop = .load 5 (.tmp 81) := ht2
  have hK1 := hK W hS (Below.refl _ _)
  have hc : W.cell? ⟨w.heap.size + 1, 13, none⟩ = some (.int .u8 p1) := hS.2.2.2.2.2.2.2.2.2.2.2.2.2.1
  clear hK
  unfold Oper.wp execOp
  go_simp
  exact hK1
set_option maxHeartbeats 1000000 in
theorem op83 {w wr : World} {A : Nat → Value} {ec : List Value} {N G Pr x0 x1 x2 x3 x4 x5 d0 d1 d2 d3 d4 d5 d6 d7 d8 p0 p1 p2 p3 p4 p5 p6 p7 p8 : Int} {n0 n1 n2 n3 n4 n5 n6 n7 n8 : Nat} {sc fo pe : Bool} (v : Nat → Value) (l : Array Bool) (p : Nat) (W : World) (Q : Exit → Act → World → Prop) (K : Act → World → Prop) (o : Oper) (ho : opsR[17]? = some o) (hd : ∀ e ∈ o.after, Region.binds .any e = true → l.getD e.on false = true) (hn : p1 % 20 = ((n1 : Nat) : Int)) (ha : 0 ≤ p1) (hb : p1 ≤ 255)
    (hS : EvS w wr A ec N G Pr x0 x1 x2 x3 x4 x5 d0 d1 d2 d3 d4 d5 d6 d7 d8 p0 p1 p2 p3 p4 p5 p6 p7 p8 sc fo pe W) (hK : ∀ W', EvS w wr A ec N G Pr x0 x1 x2 x3 x4 x5 d0 d1 d2 d3 d4 d5 d6 d7 d8 p0 p1 p2 p3 p4 p5 p6 p7 p8 sc fo pe W' → Below W.heap.size W W' → K ((actOf v (rv (w.heap.size + 1) N G Pr x0 x1 x2 x3 x4 x5 d0 d1 d2 d3 d4 d5 d6 d7 d8 n0 n1 n2 n3 n4 n5 n6 n7 n8 p0 p1 p2 p3 p4 p5 p6 p7 p8 sc fo pe) l p).put (some 83) (.agg #[.int .u64 d1, .int .u8 ((n1 : Nat) : Int)])) W') : o.wp Ybad.prog (actOf v (rv (w.heap.size + 1) N G Pr x0 x1 x2 x3 x4 x5 d0 d1 d2 d3 d4 d5 d6 d7 d8 n0 n1 n2 n3 n4 n5 n6 n7 n8 p0 p1 p2 p3 p4 p5 p6 p7 p8 sc fo pe) l p) W K Q := by
  obtain ⟨ht1, ht2, ht3⟩ := tab_spec (i := 17) rfl rfl ho
  have hdp := dep_chk ht3 hd
  have h79 : (actOf v (rv (w.heap.size + 1) N G Pr x0 x1 x2 x3 x4 x5 d0 d1 d2 d3 d4 d5 d6 d7 d8 n0 n1 n2 n3 n4 n5 n6 n7 n8 p0 p1 p2 p3 p4 p5 p6 p7 p8 sc fo pe) l p).tmps[79]? = some (.int .u64 d1) := actOf_dep' v _ l p 79 _ (by omega) (by omega) (hdp 13 (by simp)) rfl
  have h82 : (actOf v (rv (w.heap.size + 1) N G Pr x0 x1 x2 x3 x4 x5 d0 d1 d2 d3 d4 d5 d6 d7 d8 n0 n1 n2 n3 n4 n5 n6 n7 n8 p0 p1 p2 p3 p4 p5 p6 p7 p8 sc fo pe) l p).tmps[82]? = some (.int .u8 p1) := actOf_dep' v _ l p 82 _ (by omega) (by omega) (hdp 16 (by simp)) rfl
  clear hdp hd ho ht3
  generalize actOf v (rv (w.heap.size + 1) N G Pr x0 x1 x2 x3 x4 x5 d0 d1 d2 d3 d4 d5 d6 d7 d8 n0 n1 n2 n3 n4 n5 n6 n7 n8 p0 p1 p2 p3 p4 p5 p6 p7 p8 sc fo pe) l p = a at *
  obtain ⟨odst, oop, oty, opos, oaft, og⟩ := o
  obtain rfl : odst = some 83 := ht1
  obtain rfl : oop = .call { callee := .value (.func 4), args := #[.tmp 79, .tmp 82], argTypes := #[29, 5] } := ht2
  have HC : Hid (p1 % 20 = ((n1 : Nat) : Int) ∧ 0 ≤ p1 ∧ p1 ≤ 255) := ⟨hn, ha, hb⟩
  clear hn ha hb
  unfold Oper.wp execOp
  go_simp
  refine (num_below d1 p1 n1 HC.out.1 HC.out.2.1 HC.out.2.2 W).mono ?_
  rintro en W' ⟨rfl, hu⟩
  exact hK W' (EvS.up hS hu) hu
set_option maxHeartbeats 1000000 in
theorem op84 {w wr : World} {A : Nat → Value} {ec : List Value} {N G Pr x0 x1 x2 x3 x4 x5 d0 d1 d2 d3 d4 d5 d6 d7 d8 p0 p1 p2 p3 p4 p5 p6 p7 p8 : Int} {n0 n1 n2 n3 n4 n5 n6 n7 n8 : Nat} {sc fo pe : Bool} (v : Nat → Value) (hv : v 5 = .pointer (some ⟨w.heap.size + 1, 0, none⟩)) (l : Array Bool) (p : Nat) (W : World) (Q : Exit → Act → World → Prop) (K : Act → World → Prop) (o : Oper) (ho : opsR[18]? = some o) (hd : ∀ e ∈ o.after, Region.binds .any e = true → l.getD e.on false = true)
    (hS : EvS w wr A ec N G Pr x0 x1 x2 x3 x4 x5 d0 d1 d2 d3 d4 d5 d6 d7 d8 p0 p1 p2 p3 p4 p5 p6 p7 p8 sc fo pe W) (hK : ∀ W', EvS w wr A ec N G Pr x0 x1 x2 x3 x4 x5 d0 d1 d2 d3 d4 d5 d6 d7 d8 p0 p1 p2 p3 p4 p5 p6 p7 p8 sc fo pe W' → Below W.heap.size W W' → K ((actOf v (rv (w.heap.size + 1) N G Pr x0 x1 x2 x3 x4 x5 d0 d1 d2 d3 d4 d5 d6 d7 d8 n0 n1 n2 n3 n4 n5 n6 n7 n8 p0 p1 p2 p3 p4 p5 p6 p7 p8 sc fo pe) l p).put (some 84) (.pointer (some ⟨w.heap.size + 1, 3, none⟩))) W') : o.wp Ybad.prog (actOf v (rv (w.heap.size + 1) N G Pr x0 x1 x2 x3 x4 x5 d0 d1 d2 d3 d4 d5 d6 d7 d8 n0 n1 n2 n3 n4 n5 n6 n7 n8 p0 p1 p2 p3 p4 p5 p6 p7 p8 sc fo pe) l p) W K Q := by
  obtain ⟨ht1, ht2, ht3⟩ := tab_spec (i := 18) rfl rfl ho
  have hdp := dep_chk ht3 hd
  have e5 := actOf_five' v (rv (w.heap.size + 1) N G Pr x0 x1 x2 x3 x4 x5 d0 d1 d2 d3 d4 d5 d6 d7 d8 n0 n1 n2 n3 n4 n5 n6 n7 n8 p0 p1 p2 p3 p4 p5 p6 p7 p8 sc fo pe) l p
  rw [hv] at e5
  clear hv

  clear hdp hd ho ht3
  generalize actOf v (rv (w.heap.size + 1) N G Pr x0 x1 x2 x3 x4 x5 d0 d1 d2 d3 d4 d5 d6 d7 d8 n0 n1 n2 n3 n4 n5 n6 n7 n8 p0 p1 p2 p3 p4 p5 p6 p7 p8 sc fo pe) l p = a at *
  obtain ⟨odst, oop, oty, opos, oaft, og⟩ := o
  obtain rfl : odst = some 84 := ht1
  obtain rfl : oop = .fieldAddr 33 (.tmp 5) 3 := ht2
  have hK1 := hK W hS (Below.refl _ _)
  clear hK
  unfold Oper.wp execOp
  go_simp
  exact hK1
set_option maxHeartbeats 1000000 in
theorem op85 {w wr : World} {A : Nat → Value} {ec : List Value} {N G Pr x0 x1 x2 x3 x4 x5 d0 d1 d2 d3 d4 d5 d6 d7 d8 p0 p1 p2 p3 p4 p5 p6 p7 p8 : Int} {n0 n1 n2 n3 n4 n5 n6 n7 n8 : Nat} {sc fo pe : Bool} (v : Nat → Value) (l : Array Bool) (p : Nat) (W : World) (Q : Exit → Act → World → Prop) (K : Act → World → Prop) (o : Oper) (ho : opsR[19]? = some o) (hd : ∀ e ∈ o.after, Region.binds .any e = true → l.getD e.on false = true)
    (hS : EvS w wr A ec N G Pr x0 x1 x2 x3 x4 x5 d0 d1 d2 d3 d4 d5 d6 d7 d8 p0 p1 p2 p3 p4 p5 p6 p7 p8 sc fo pe W) (hK : ∀ W', EvS w wr A ec N G Pr x0 x1 x2 x3 x4 x5 d0 d1 d2 d3 d4 d5 d6 d7 d8 p0 p1 p2 p3 p4 p5 p6 p7 p8 sc fo pe W' → Below W.heap.size W W' → K ((actOf v (rv (w.heap.size + 1) N G Pr x0 x1 x2 x3 x4 x5 d0 d1 d2 d3 d4 d5 d6 d7 d8 n0 n1 n2 n3 n4 n5 n6 n7 n8 p0 p1 p2 p3 p4 p5 p6 p7 p8 sc fo pe) l p).put (some 85) (.pointer (some ⟨w.heap.size + 1, 5, none⟩))) W') : o.wp Ybad.prog (actOf v (rv (w.heap.size + 1) N G Pr x0 x1 x2 x3 x4 x5 d0 d1 d2 d3 d4 d5 d6 d7 d8 n0 n1 n2 n3 n4 n5 n6 n7 n8 p0 p1 p2 p3 p4 p5 p6 p7 p8 sc fo pe) l p) W K Q := by
  obtain ⟨ht1, ht2, ht3⟩ := tab_spec (i := 19) rfl rfl ho
  have hdp := dep_chk ht3 hd
  have h84 : (actOf v (rv (w.heap.size + 1) N G Pr x0 x1 x2 x3 x4 x5 d0 d1 d2 d3 d4 d5 d6 d7 d8 n0 n1 n2 n3 n4 n5 n6 n7 n8 p0 p1 p2 p3 p4 p5 p6 p7 p8 sc fo pe) l p).tmps[84]? = some (.pointer (some ⟨w.heap.size + 1, 3, none⟩)) := actOf_dep' v _ l p 84 _ (by omega) (by omega) (hdp 18 (by simp)) rfl
  clear hdp hd ho ht3
  generalize actOf v (rv (w.heap.size + 1) N G Pr x0 x1 x2 x3 x4 x5 d0 d1 d2 d3 d4 d5 d6 d7 d8 n0 n1 n2 n3 n4 n5 n6 n7 n8 p0 p1 p2 p3 p4 p5 p6 p7 p8 sc fo pe) l p = a at *
  obtain ⟨odst, oop, oty, opos, oaft, og⟩ := o
  obtain rfl : odst = some 85 := ht1
  obtain rfl : oop = .indexAddr 30 (.tmp 84) (.const (.int .i64 2)) := ht2
  have hK1 := hK W hS (Below.refl _ _)
  clear hK
  unfold Oper.wp execOp
  go_simp
  exact hK1
set_option maxHeartbeats 1000000 in
theorem op86 {w wr : World} {A : Nat → Value} {ec : List Value} {N G Pr x0 x1 x2 x3 x4 x5 d0 d1 d2 d3 d4 d5 d6 d7 d8 p0 p1 p2 p3 p4 p5 p6 p7 p8 : Int} {n0 n1 n2 n3 n4 n5 n6 n7 n8 : Nat} {sc fo pe : Bool} (v : Nat → Value) (l : Array Bool) (p : Nat) (W : World) (Q : Exit → Act → World → Prop) (K : Act → World → Prop) (o : Oper) (ho : opsR[20]? = some o) (hd : ∀ e ∈ o.after, Region.binds .any e = true → l.getD e.on false = true)
    (hS : EvS w wr A ec N G Pr x0 x1 x2 x3 x4 x5 d0 d1 d2 d3 d4 d5 d6 d7 d8 p0 p1 p2 p3 p4 p5 p6 p7 p8 sc fo pe W) (hK : ∀ W', EvS w wr A ec N G Pr x0 x1 x2 x3 x4 x5 d0 d1 d2 d3 d4 d5 d6 d7 d8 p0 p1 p2 p3 p4 p5 p6 p7 p8 sc fo pe W' → Below W.heap.size W W' → K ((actOf v (rv (w.heap.size + 1) N G Pr x0 x1 x2 x3 x4 x5 d0 d1 d2 d3 d4 d5 d6 d7 d8 n0 n1 n2 n3 n4 n5 n6 n7 n8 p0 p1 p2 p3 p4 p5 p6 p7 p8 sc fo pe) l p).put (some 86) (.int .u64 d2)) W') : o.wp Ybad.prog (actOf v (rv (w.heap.size + 1) N G Pr x0 x1 x2 x3 x4 x5 d0 d1 d2 d3 d4 d5 d6 d7 d8 n0 n1 n2 n3 n4 n5 n6 n7 n8 p0 p1 p2 p3 p4 p5 p6 p7 p8 sc fo pe) l p) W K Q := by
  obtain ⟨ht1, ht2, ht3⟩ := tab_spec (i := 20) rfl rfl ho
  have hdp := dep_chk ht3 hd
  have h85 : (actOf v (rv (w.heap.size + 1) N G Pr x0 x1 x2 x3 x4 x5 d0 d1 d2 d3 d4 d5 d6 d7 d8 n0 n1 n2 n3 n4 n5 n6 n7 n8 p0 p1 p2 p3 p4 p5 p6 p7 p8 sc fo pe) l p).tmps[85]? = some (.pointer (some ⟨w.heap.size + 1, 5, none⟩)) := actOf_dep' v _ l p 85 _ (by omega) (by omega) (hdp 19 (by simp)) rfl
  clear hdp hd ho ht3
  generalize actOf v (rv (w.heap.size + 1) N G Pr x0 x1 x2 x3 x4 x5 d0 d1 d2 d3 d4 d5 d6 d7 d8 n0 n1 n2 n3 n4 n5 n6 n7 n8 p0 p1 p2 p3 p4 p5 p6 p7 p8 sc fo pe) l p = a at *
  obtain ⟨odst, oop, oty, opos, oaft, og⟩ := o
  obtain rfl : odst = some 86 := ht1
  obtain rfl : oop = .load 29 (.tmp 85) := ht2
  have hK1 := hK W hS (Below.refl _ _)
  have hc : W.cell? ⟨w.heap.size + 1, 5, none⟩ = some (.int .u64 d2) := hS.2.2.2.2.2.1
  clear hK
  unfold Oper.wp execOp
  go_simp
  exact hK1
set_option maxHeartbeats 1000000 in
theorem op87 {w wr : World} {A : Nat → Value} {ec : List Value} {N G Pr x0 x1 x2 x3 x4 x5 d0 d1 d2 d3 d4 d5 d6 d7 d8 p0 p1 p2 p3 p4 p5 p6 p7 p8 : Int} {n0 n1 n2 n3 n4 n5 n6 n7 n8 : Nat} {sc fo pe : Bool} (v : Nat → Value) (hv : v 5 = .pointer (some ⟨w.heap.size + 1, 0, none⟩)) (l : Array Bool) (p : Nat) (W : World) (Q : Exit → Act → World → Prop) (K : Act → World → Prop) (o : Oper) (ho : opsR[21]? = some o) (hd : ∀ e ∈ o.after, Region.binds .any e = true → l.getD e.on false = true)
    (hS : EvS w wr A ec N G Pr x0 x1 x2 x3 x4 x5 d0 d1 d2 d3 d4 d5 d6 d7 d8 p0 p1 p2 p3 p4 p5 p6 p7 p8 sc fo pe W) (hK : ∀ W', EvS w wr A ec N G Pr x0 x1 x2 x3 x4 x5 d0 d1 d2 d3 d4 d5 d6 d7 d8 p0 p1 p2 p3 p4 p5 p6 p7 p8 sc fo pe W' → Below W.heap.size W W' → K ((actOf v (rv (w.heap.size + 1) N G Pr x0 x1 x2 x3 x4 x5 d0 d1 d2 d3 d4 d5 d6 d7 d8 n0 n1 n2 n3 n4 n5 n6 n7 n8 p0 p1 p2 p3 p4 p5 p6 p7 p8 sc fo pe) l p).put (some 87) (.pointer (some ⟨w.heap.size + 1, 12, none⟩))) W') : o.wp Ybad.prog (actOf v (rv (w.heap.size + 1) N G Pr x0 x1 x2 x3 x4 x5 d0 d1 d2 d3 d4 d5 d6 d7 d8 n0 n1 n2 n3 n4 n5 n6 n7 n8 p0 p1 p2 p3 p4 p5 p6 p7 p8 sc fo pe) l p) W K Q := by
  obtain ⟨ht1, ht2, ht3⟩ := tab_spec (i := 21) rfl rfl ho
  have hdp := dep_chk ht3 hd
  have e5 := actOf_five' v (rv (w.heap.size + 1) N G Pr x0 x1 x2 x3 x4 x5 d0 d1 d2 d3 d4 d5 d6 d7 d8 n0 n1 n2 n3 n4 n5 n6 n7 n8 p0 p1 p2 p3 p4 p5 p6 p7 p8 sc fo pe) l p
  rw [hv] at e5
  clear hv

  clear hdp hd ho ht3
  generalize actOf v (rv (w.heap.size + 1) N G Pr x0 x1 x2 x3 x4 x5 d0 d1 d2 d3 d4 d5 d6 d7 d8 n0 n1 n2 n3 n4 n5 n6 n7 n8 p0 p1 p2 p3 p4 p5 p6 p7 p8 sc fo pe) l p = a at *
  obtain ⟨odst, oop, oty, opos, oaft, og⟩ := o
  obtain rfl : odst = some 87 := ht1
  obtain rfl : oop = .fieldAddr 33 (.tmp 5) 4 := ht2
  have hK1 := hK W hS (Below.refl _ _)
  clear hK
  unfold Oper.wp execOp
  go_simp
  exact hK1
set_option maxHeartbeats 1000000 in
theorem op88 {w wr : World} {A : Nat → Value} {ec : List Value} {N G Pr x0 x1 x2 x3 x4 x5 d0 d1 d2 d3 d4 d5 d6 d7 d8 p0 p1 p2 p3 p4 p5 p6 p7 p8 : Int} {n0 n1 n2 n3 n4 n5 n6 n7 n8 : Nat} {sc fo pe : Bool} (v : Nat → Value) (l : Array Bool) (p : Nat) (W : World) (Q : Exit → Act → World → Prop) (K : Act → World → Prop) (o : Oper) (ho : opsR[22]? = some o) (hd : ∀ e ∈ o.after, Region.binds .any e = true → l.getD e.on false = true)
    (hS : EvS w wr A ec N G Pr x0 x1 x2 x3 x4 x5 d0 d1 d2 d3 d4 d5 d6 d7 d8 p0 p1 p2 p3 p4 p5 p6 p7 p8 sc fo pe W) (hK : ∀ W', EvS w wr A ec N G Pr x0 x1 x2 x3 x4 x5 d0 d1 d2 d3 d4 d5 d6 d7 d8 p0 p1 p2 p3 p4 p5 p6 p7 p8 sc fo pe W' → Below W.heap.size W W' → K ((actOf v (rv (w.heap.size + 1) N G Pr x0 x1 x2 x3 x4 x5 d0 d1 d2 d3 d4 d5 d6 d7 d8 n0 n1 n2 n3 n4 n5 n6 n7 n8 p0 p1 p2 p3 p4 p5 p6 p7 p8 sc fo pe) l p).put (some 88) (.pointer (some ⟨w.heap.size + 1, 14, none⟩))) W') : o.wp Ybad.prog (actOf v (rv (w.heap.size + 1) N G Pr x0 x1 x2 x3 x4 x5 d0 d1 d2 d3 d4 d5 d6 d7 d8 n0 n1 n2 n3 n4 n5 n6 n7 n8 p0 p1 p2 p3 p4 p5 p6 p7 p8 sc fo pe) l p) W K Q := by
  obtain ⟨ht1, ht2, ht3⟩ := tab_spec (i := 22) rfl rfl ho
  have hdp := dep_chk ht3 hd
  have h87 : (actOf v (rv (w.heap.size + 1) N G Pr x0 x1 x2 x3 x4 x5 d0 d1 d2 d3 d4 d5 d6 d7 d8 n0 n1 n2 n3 n4 n5 n6 n7 n8 p0 p1 p2 p3 p4 p5 p6 p7 p8 sc fo pe) l p).tmps[87]? = some (.pointer (some ⟨w.heap.size + 1, 12, none⟩)) := actOf_dep' v _ l p 87 _ (by omega) (by omega) (hdp 21 (by simp)) rfl
  clear hdp hd ho ht3
  generalize actOf v (rv (w.heap.size + 1) N G Pr x0 x1 x2 x3 x4 x5 d0 d1 d2 d3 d4 d5 d6 d7 d8 n0 n1 n2 n3 n4 n5 n6 n7 n8 p0 p1 p2 p3 p4 p5 p6 p7 p8 sc fo pe) l p = a at *
  obtain ⟨odst, oop, oty, opos, oaft, og⟩ := o
  obtain rfl : odst = some 88 := ht1
  obtain rfl : oop = .indexAddr 31 (.tmp 87) (.const (.int .i64 2)) := ht2
  have hK1 := hK W hS (Below.refl _ _)
  clear hK
  unfold Oper.wp execOp
  go_simp
  exact hK1
set_option maxHeartbeats 1000000 in
theorem op89 {w wr : World} {A : Nat → Value} {ec : List Value} {N G Pr x0 x1 x2 x3 x4 x5 d0 d1 d2 d3 d4 d5 d6 d7 d8 p0 p1 p2 p3 p4 p5 p6 p7 p8 : Int} {n0 n1 n2 n3 n4 n5 n6 n7 n8 : Nat} {sc fo pe : Bool} (v : Nat → Value) (l : Array Bool) (p : Nat) (W : World) (Q : Exit → Act → World → Prop) (K : Act → World → Prop) (o : Oper) (ho : opsR[23]? = some o) (hd : ∀ e ∈ o.after, Region.binds .any e = true → l.getD e.on false = true)
    (hS : EvS w wr A ec N G Pr x0 x1 x2 x3 x4 x5 d0 d1 d2 d3 d4 d5 d6 d7 d8 p0 p1 p2 p3 p4 p5 p6 p7 p8 sc fo pe W) (hK : ∀ W', EvS w wr A ec N G Pr x0 x1 x2 x3 x4 x5 d0 d1 d2 d3 d4 d5 d6 d7 d8 p0 p1 p2 p3 p4 p5 p6 p7 p8 sc fo pe W' → Below W.heap.size W W' → K ((actOf v (rv (w.heap.size + 1) N G Pr x0 x1 x2 x3 x4 x5 d0 d1 d2 d3 d4 d5 d6 d7 d8 n0 n1 n2 n3 n4 n5 n6 n7 n8 p0 p1 p2 p3 p4 p5 p6 p7 p8 sc fo pe) l p).put (some 89) (.int .u8 p2)) W') : o.wp Ybad.prog (actOf v (rv (w.heap.size + 1) N G Pr x0 x1 x2 x3 x4 x5 d0 d1 d2 d3 d4 d5 d6 d7 d8 n0 n1 n2 n3 n4 n5 n6 n7 n8 p0 p1 p2 p3 p4 p5 p6 p7 p8 sc fo pe) l p) W K Q := by
  obtain ⟨ht1, ht2, ht3⟩ := tab_spec (i := 23) rfl rfl ho
  have hdp := dep_chk ht3 hd
  have h88 : (actOf v (rv (w.heap.size + 1) N G Pr x0 x1 x2 x3 x4 x5 d0 d1 d2 d3 d4 d5 d6 d7 d8 n0 n1 n2 n3 n4 n5 n6 n7 n8 p0 p1 p2 p3 p4 p5 p6 p7 p8 sc fo pe) l p).tmps[88]? = some (.pointer (some ⟨w.heap.size + 1, 14, none⟩)) := actOf_dep' v _ l p 88 _ (by omega) (by omega) (hdp 22 (by simp)) rfl
  clear hdp hd ho ht3
  generalize actOf v (rv (w.heap.size + 1) N G Pr x0 x1 x2 x3 x4 x5 d0 d1 d2 d3 d4 d5 d6 d7 d8 n0 n1 n2 n3 n4 n5 n6 n7 n8 p0 p1 p2 p3 p4 p5 p6 p7 p8 sc fo pe) l p = a at *
  obtain ⟨odst, oop, oty, opos, oaft, og⟩ := o
  obtain rfl : odst = some 89 := ht1
  obtain rfl : oop = .load 5 (.tmp 88) := ht2
  have hK1 := hK W hS (Below.refl _ _)
  have hc : W.cell? ⟨w.heap.size + 1, 14, none⟩ = some (.int .u8 p2) := hS.2.2.2.2.2.2.2.2.2.2.2.2.2.2.1
  clear hK
  unfold Oper.wp execOp
  go_simp
  exact hK1
set_option maxHeartbeats 1000000 in
theorem op90 {w wr : World} {A : Nat → Value} {ec : List Value} {N G Pr x0 x1 x2 x3 x4 x5 d0 d1 d2 d3 d4 d5 d6 d7 d8 p0 p1 p2 p3 p4 p5 p6 p7 p8 : Int} {n0 n1 n2 n3 n4 n5 n6 n7 n8 : Nat} {sc fo pe : Bool} (v : Nat → Value) (l : Array Bool) (p : Nat) (W : World) (Q : Exit → Act → World → Prop) (K : Act → World → Prop) (o : Oper) (ho : opsR[24]? = some o) (hd : ∀ e ∈ o.after, Region.binds .any e = true → l.getD e.on false = true) (hn : p2 % 20 = ((n2 : Nat) : Int)) (ha : 0 ≤ p2) (hb : p2 ≤ 255)
    (hS : EvS w wr A ec N G Pr x0 x1 x2 x3 x4 x5 d0 d1 d2 d3 d4 d5 d6 d7 d8 p0 p1 p2 p3 p4 p5 p6 p7 p8 sc fo pe W) (hK : ∀ W', EvS w wr A ec N G Pr x0 x1 x2 x3 x4 x5 d0 d1 d2 d3 d4 d5 d6 d7 d8 p0 p1 p2 p3 p4 p5 p6 p7 p8 sc fo pe W' → Below W.heap.size W W' → K ((actOf v (rv (w.heap.size + 1) N G Pr x0 x1 x2 x3 x4 x5 d0 d1 d2 d3 d4 d5 d6 d7 d8 n0 n1 n2 n3 n4 n5 n6 n7 n8 p0 p1 p2 p3 p4 p5 p6 p7 p8 sc fo pe) l p).put (some 90) (.agg #[.int .u64 d2, .int .u8 ((n2 : Nat) : Int)])) W') : o.wp Ybad.prog (actOf v (rv (w.heap.size + 1) N G Pr x0 x1 x2 x3 x4 x5 d0 d1 d2 d3 d4 d5 d6 d7 d8 n0 n1 n2 n3 n4 n5 n6 n7 n8 p0 p1 p2 p3 p4 p5 p6 p7 p8 sc fo pe) l p) W K Q := by
  obtain ⟨ht1, ht2, ht3⟩ := tab_spec (i := 24) rfl rfl ho
  have hdp := dep_chk ht3 hd
  have h86 : (actOf v (rv (w.heap.size + 1) N G Pr x0 x1 x2 x3 x4 x5 d0 d1 d2 d3 d4 d5 d6 d7 d8 n0 n1 n2 n3 n4 n5 n6 n7 n8 p0 p1 p2 p3 p4 p5 p6 p7 p8 sc fo pe) l p).tmps[86]? = some (.int .u64 d2) := actOf_dep' v _ l p 86 _ (by omega) (by omega) (hdp 20 (by simp)) rfl
  have h89 : (actOf v (rv (w.heap.size + 1) N G Pr x0 x1 x2 x3 x4 x5 d0 d1 d2 d3 d4 d5 d6 d7 d8 n0 n1 n2 n3 n4 n5 n6 n7 n8 p0 p1 p2 p3 p4 p5 p6 p7 p8 sc fo pe) l p).tmps[89]? = some (.int .u8 p2) := actOf_dep' v _ l p 89 _ (by omega) (by omega) (hdp 23 (by simp)) rfl
  clear hdp hd ho ht3
  generalize actOf v (rv (w.heap.size + 1) N G Pr x0 x1 x2 x3 x4 x5 d0 d1 d2 d3 d4 d5 d6 d7 d8 n0 n1 n2 n3 n4 n5 n6 n7 n8 p0 p1 p2 p3 p4 p5 p6 p7 p8 sc fo pe) l p = a at *
  obtain ⟨odst, oop, oty, opos, oaft, og⟩ := o
  obtain rfl : odst = some 90 := ht1
  obtain rfl : oop = .call { callee := .value (.func 4), args := #[.tmp 86, .tmp 89], argTypes := #[29, 5] } := ht2
  have HC : Hid (p2 % 20 = ((n2 : Nat) : Int) ∧ 0 ≤ p2 ∧ p2 ≤ 255) := ⟨hn, ha, hb⟩
  clear hn ha hb
  unfold Oper.wp execOp
  go_simp
  refine (num_below d2 p2 n2 HC.out.1 HC.out.2.1 HC.out.2.2 W).mono ?_
  rintro en W' ⟨rfl, hu⟩
  exact hK W' (EvS.up hS hu) hu
set_option maxHeartbeats 1000000 in
theorem op91 {w wr : World} {A : Nat → Value} {ec : List Value} {N G Pr x0 x1 x2 x3 x4 x5 d0 d1 d2 d3 d4 d5 d6 d7 d8 p0 p1 p2 p3 p4 p5 p6 p7 p8 : Int} {n0 n1 n2 n3 n4 n5 n6 n7 n8 : Nat} {sc fo pe : Bool} (v : Nat → Value) (hv : v 5 = .pointer (some ⟨w.heap.size + 1, 0, none⟩)) (l : Array Bool) (p : Nat) (W : World) (Q : Exit → Act → World → Prop) (K : Act → World → Prop) (o : Oper) (ho : opsR[25]? = some o) (hd : ∀ e ∈ o.after, Region.binds .any e = true → l.getD e.on false = true)
    (hS : EvS w wr A ec N G Pr x0 x1 x2 x3 x4 x5 d0 d1 d2 d3 d4 d5 d6 d7 d8 p0 p1 p2 p3 p4 p5 p6 p7 p8 sc fo pe W) (hK : ∀ W', EvS w wr A ec N G Pr x0 x1 x2 x3 x4 x5 d0 d1 d2 d3 d4 d5 d6 d7 d8 p0 p1 p2 p3 p4 p5 p6 p7 p8 sc fo pe W' → Below W.heap.size W W' → K ((actOf v (rv (w.heap.size + 1) N G Pr x0 x1 x2 x3 x4 x5 d0 d1 d2 d3 d4 d5 d6 d7 d8 n0 n1 n2 n3 n4 n5 n6 n7 n8 p0 p1 p2 p3 p4 p5 p6 p7 p8 sc fo pe) l p).put (some 91) (.pointer (some ⟨w.heap.size + 1, 3, none⟩))) W') : o.wp Ybad.prog (actOf v (rv (w.heap.size + 1) N G Pr x0 x1 x2 x3 x4 x5 d0 d1 d2 d3 d4 d5 d6 d7 d8 n0 n1 n2 n3 n4 n5 n6 n7 n8 p0 p1 p2 p3 p4 p5 p6 p7 p8 sc fo pe) l p) W K Q := by
  obtain ⟨ht1, ht2, ht3⟩ := tab_spec (i := 25) rfl rfl ho
  have hdp := dep_chk ht3 hd
  have e5 := actOf_five' v (rv (w.heap.size + 1) N G Pr x0 x1 x2 x3 x4 x5 d0 d1 d2 d3 d4 d5 d6 d7 d8 n0 n1 n2 n3 n4 n5 n6 n7 n8 p0 p1 p2 p3 p4 p5 p6 p7 p8 sc fo pe) l p
  rw [hv] at e5
  clear hv

  clear hdp hd ho ht3
  generalize actOf v (rv (w.heap.size + 1) N G Pr x0 x1 x2 x3 x4 x5 d0 d1 d2 d3 d4 d5 d6 d7 d8 n0 n1 n2 n3 n4 n5 n6 n7 n8 p0 p1 p2 p3 p4 p5 p6 p7 p8 sc fo pe) l p = a at *
  obtain ⟨odst, oop, oty, opos, oaft, og⟩ := o
  obtain rfl : odst = some 91 := ht1
  obtain rfl : oop = .fieldAddr 33 (.tmp 5) 3 := ht2
  have hK1 := hK W hS (Below.refl _ _)
  clear hK
  unfold Oper.wp execOp
  go_simp
  exact hK1
set_option maxHeartbeats 1000000 in
theorem op92 {w wr : World} {A : Nat → Value} {ec : List Value} {N G Pr x0 x1 x2 x3 x4 x5 d0 d1 d2 d3 d4 d5 d6 d7 d8 p0 p1 p2 p3 p4 p5 p6 p7 p8 : Int} {n0 n1 n2 n3 n4 n5 n6 n7 n8 : Nat} {sc fo pe : Bool} (v : Nat → Value) (l : Array Bool) (p : Nat) (W : World) (Q : Exit → Act → World → Prop) (K : Act → World → Prop) (o : Oper) (ho : opsR[26]? = some o) (hd : ∀ e ∈ o.after, Region.binds .any e = true → l.getD e.on false = true)
    (hS : EvS w wr A ec N G Pr x0 x1 x2 x3 x4 x5 d0 d1 d2 d3 d4 d5 d6 d7 d8 p0 p1 p2 p3 p4 p5 p6 p7 p8 sc fo pe W) (hK : ∀ W', EvS w wr A ec N G Pr x0 x1 x2 x3 x4 x5 d0 d1 d2 d3 d4 d5 d6 d7 d8 p0 p1 p2 p3 p4 p5 p6 p7 p8 sc fo pe W' → Below W.heap.size W W' → K ((actOf v (rv (w.heap.size + 1) N G Pr x0 x1 x2 x3 x4 x5 d0 d1 d2 d3 d4 d5 d6 d7 d8 n0 n1 n2 n3 n4 n5 n6 n7 n8 p0 p1 p2 p3 p4 p5 p6 p7 p8 sc fo pe) l p).put (some 92) (.pointer (some ⟨w.heap.size + 1, 6, none⟩))) W') : o.wp Ybad.prog (actOf v (rv (w.heap.size + 1) N G Pr x0 x1 x2 x3 x4 x5 d0 d1 d2 d3 d4 d5 d6 d7 d8 n0 n1 n2 n3 n4 n5 n6 n7 n8 p0 p1 p2 p3 p4 p5 p6 p7 p8 sc fo pe) l p) W K Q := by
  obtain ⟨ht1, ht2, ht3⟩ := tab_spec (i := 26) rfl rfl ho
  have hdp := dep_chk ht3 hd
  have h91 : (actOf v (rv (w.heap.size + 1) N G Pr x0 x1 x2 x3 x4 x5 d0 d1 d2 d3 d4 d5 d6 d7 d8 n0 n1 n2 n3 n4 n5 n6 n7 n8 p0 p1 p2 p3 p4 p5 p6 p7 p8 sc fo pe) l p).tmps[91]? = some (.pointer (some ⟨w.heap.size + 1, 3, none⟩)) := actOf_dep' v _ l p 91 _ (by omega) (by omega) (hdp 25 (by simp)) rfl
  clear hdp hd ho ht3
  generalize actOf v (rv (w.heap.size + 1) N G Pr x0 x1 x2 x3 x4 x5 d0 d1 d2 d3 d4 d5 d6 d7 d8 n0 n1 n2 n3 n4 n5 n6 n7 n8 p0 p1 p2 p3 p4 p5 p6 p7 p8 sc fo pe) l p = a at *
  obtain ⟨odst, oop, oty, opos, oaft, og⟩ := o
  obtain rfl : odst = some 92 := ht1
  obtain rfl : oop = .indexAddr 30 (.tmp 91) (.const (.int .i64 3)) := ht2
  have hK1 := hK W hS (Below.refl _ _)
  clear hK
  unfold Oper.wp execOp
  go_simp
  exact hK1
set_option maxHeartbeats 1000000 in
theorem op93 {w wr : World} {A : Nat → Value} {ec : List Value} {N G Pr x0 x1 x2 x3 x4 x5 d0 d1 d2 d3 d4 d5 d6 d7 d8 p0 p1 p2 p3 p4 p5 p6 p7 p8 : Int} {n0 n1 n2 n3 n4 n5 n6 n7 n8 : Nat} {sc fo pe : Bool} (v : Nat → Value) (l : Array Bool) (p : Nat) (W : World) (Q : Exit → Act → World → Prop) (K : Act → World → Prop) (o : Oper) (ho : opsR[27]? = some o) (hd : ∀ e ∈ o.after, Region.binds .any e = true → l.getD e.on false = true)
    (hS : EvS w wr A ec N G Pr x0 x1 x2 x3 x4 x5 d0 d1 d2 d3 d4 d5 d6 d7 d8 p0 p1 p2 p3 p4 p5 p6 p7 p8 sc fo pe W) (hK : ∀ W', EvS w wr A ec N G Pr x0 x1 x2 x3 x4 x5 d0 d1 d2 d3 d4 d5 d6 d7 d8 p0 p1 p2 p3 p4 p5 p6 p7 p8 sc fo pe W' → Below W.heap.size W W' → K ((actOf v (rv (w.heap.size + 1) N G Pr x0 x1 x2 x3 x4 x5 d0 d1 d2 d3 d4 d5 d6 d7 d8 n0 n1 n2 n3 n4 n5 n6 n7 n8 p0 p1 p2 p3 p4 p5 p6 p7 p8 sc fo pe) l p).put (some 93) (.int .u64 d3)) W') : o.wp Ybad.prog (actOf v (rv (w.heap.size + 1) N G Pr x0 x1 x2 x3 x4 x5 d0 d1 d2 d3 d4 d5 d6 d7 d8 n0 n1 n2 n3 n4 n5 n6 n7 n8 p0 p1 p2 p3 p4 p5 p6 p7 p8 sc fo pe) l p) W K Q := by
  obtain ⟨ht1, ht2, ht3⟩ := tab_spec (i := 27) rfl rfl ho
  have hdp := dep_chk ht3 hd
  have h92 : (actOf v (rv (w.heap.size + 1) N G Pr x0 x1 x2 x3 x4 x5 d0 d1 d2 d3 d4 d5 d6 d7 d8 n0 n1 n2 n3 n4 n5 n6 n7 n8 p0 p1 p2 p3 p4 p5 p6 p7 p8 sc fo pe) l p).tmps[92]? = some (.pointer (some ⟨w.heap.size + 1, 6, none⟩)) := actOf_dep' v _ l p 92 _ (by omega) (by omega) (hdp 26 (by simp)) rfl
  clear hdp hd ho ht3
  generalize actOf v (rv (w.heap.size + 1) N G Pr x0 x1 x2 x3 x4 x5 d0 d1 d2 d3 d4 d5 d6 d7 d8 n0 n1 n2 n3 n4 n5 n6 n7 n8 p0 p1 p2 p3 p4 p5 p6 p7 p8 sc fo pe) l p = a at *
  obtain ⟨odst, oop, oty, opos, oaft, og⟩ := o
  obtain rfl : odst = some 93 := ht1
  obtain rfl : oop = .load 29 (.tmp 92) := ht2
  have hK1 := hK W hS (Below.refl _ _)
  have hc : W.cell? ⟨w.heap.size + 1, 6, none⟩ = some (.int .u64 d3) := hS.2.2.2.2.2.2.1
  clear hK
  unfold Oper.wp execOp
  go_simp
  exact hK1
set_option maxHeartbeats 1000000 in
theorem op94 {w wr : World} {A : Nat → Value} {ec : List Value} {N G Pr x0 x1 x2 x3 x4 x5 d0 d1 d2 d3 d4 d5 d6 d7 d8 p0 p1 p2 p3 p4 p5 p6 p7 p8 : Int} {n0 n1 n2 n3 n4 n5 n6 n7 n8 : Nat} {sc fo pe : Bool} (v : Nat → Value) (hv : v 5 = .pointer (some ⟨w.heap.size + 1, 0, none⟩)) (l : Array Bool) (p : Nat) (W : World) (Q : Exit → Act → World → Prop) (K : Act → World → Prop) (o : Oper) (ho : opsR[28]? = some o) (hd : ∀ e ∈ o.after, Region.binds .any e = true → l.getD e.on false = true)
    (hS : EvS w wr A ec N G Pr x0 x1 x2 x3 x4 x5 d0 d1 d2 d3 d4 d5 d6 d7 d8 p0 p1 p2 p3 p4 p5 p6 p7 p8 sc fo pe W) (hK : ∀ W', EvS w wr A ec N G Pr x0 x1 x2 x3 x4 x5 d0 d1 d2 d3 d4 d5 d6 d7 d8 p0 p1 p2 p3 p4 p5 p6 p7 p8 sc fo pe W' → Below W.heap.size W W' → K ((actOf v (rv (w.heap.size + 1) N G Pr x0 x1 x2 x3 x4 x5 d0 d1 d2 d3 d4 d5 d6 d7 d8 n0 n1 n2 n3 n4 n5 n6 n7 n8 p0 p1 p2 p3 p4 p5 p6 p7 p8 sc fo pe) l p).put (some 94) (.pointer (some ⟨w.heap.size + 1, 12, none⟩))) W') : o.wp Ybad.prog (actOf v (rv (w.heap.size + 1) N G Pr x0 x1 x2 x3 x4 x5 d0 d1 d2 d3 d4 d5 d6 d7 d8 n0 n1 n2 n3 n4 n5 n6 n7 n8 p0 p1 p2 p3 p4 p5 p6 p7 p8 sc fo pe) l p) W K Q := by
  obtain ⟨ht1, ht2, ht3⟩ := tab_spec (i := 28) rfl rfl ho
  have hdp := dep_chk ht3 hd
  have e5 := actOf_five' v (rv (w.heap.size + 1) N G Pr x0 x1 x2 x3 x4 x5 d0 d1 d2 d3 d4 d5 d6 d7 d8 n0 n1 n2 n3 n4 n5 n6 n7 n8 p0 p1 p2 p3 p4 p5 p6 p7 p8 sc fo pe) l p
  rw [hv] at e5
  clear hv

  clear hdp hd ho ht3
  generalize actOf v (rv (w.heap.size + 1) N G Pr x0 x1 x2 x3 x4 x5 d0 d1 d2 d3 d4 d5 d6 d7 d8 n0 n1 n2 n3 n4 n5 n6 n7 n8 p0 p1 p2 p3 p4 p5 p6 p7 p8 sc fo pe) l p = a at *
  obtain ⟨odst, oop, oty, opos, oaft, og⟩ := o
  obtain rfl : odst = some 94 := ht1
  obtain rfl : oop = .fieldAddr 33 (.tmp 5) 4 := ht2
  have hK1 := hK W hS (Below.refl _ _)
  clear hK
  unfold Oper.wp execOp
  go_simp
  exact hK1
set_option maxHeartbeats 1000000 in
theorem op95 {w wr : World} {A : Nat → Value} {ec : List Value} {N G Pr x0 x1 x2 x3 x4 x5 d0 d1 d2 d3 d4 d5 d6 d7 d8 p0 p1 p2 p3 p4 p5 p6 p7 p8 : Int} {n0 n1 n2 n3 n4 n5 n6 n7 n8 : Nat} {sc fo pe : Bool} (v : Nat → Value) (l : Array Bool) (p : Nat) (W : World) (Q : Exit → Act → World → Prop) (K : Act → World → Prop) (o : Oper) (ho : opsR[29]? = some o) (hd : ∀ e ∈ o.after, Region.binds .any e = true → l.getD e.on false = true)
    (hS : EvS w wr A ec N G Pr x0 x1 x2 x3 x4 x5 d0 d1 d2 d3 d4 d5 d6 d7 d8 p0 p1 p2 p3 p4 p5 p6 p7 p8 sc fo pe W) (hK : ∀ W', EvS w wr A ec N G Pr x0 x1 x2 x3 x4 x5 d0 d1 d2 d3 d4 d5 d6 d7 d8 p0 p1 p2 p3 p4 p5 p6 p7 p8 sc fo pe W' → Below W.heap.size W W' → K ((actOf v (rv (w.heap.size + 1) N G Pr x0 x1 x2 x3 x4 x5 d0 d1 d2 d3 d4 d5 d6 d7 d8 n0 n1 n2 n3 n4 n5 n6 n7 n8 p0 p1 p2 p3 p4 p5 p6 p7 p8 sc fo pe) l p).put (some 95) (.pointer (some ⟨w.heap.size + 1, 15, none⟩))) W') : o.wp Ybad.prog (actOf v (rv (w.heap.size + 1) N G Pr x0 x1 x2 x3 x4 x5 d0 d1 d2 d3 d4 d5 d6 d7 d8 n0 n1 n2 n3 n4 n5 n6 n7 n8 p0 p1 p2 p3 p4 p5 p6 p7 p8 sc fo pe) l p) W K Q := by
  obtain ⟨ht1, ht2, ht3⟩ := tab_spec (i := 29) rfl rfl ho
  have hdp := dep_chk ht3 hd
  have h94 : (actOf v (rv (w.heap.size + 1) N G Pr x0 x1 x2 x3 x4 x5 d0 d1 d2 d3 d4 d5 d6 d7 d8 n0 n1 n2 n3 n4 n5 n6 n7 n8 p0 p1 p2 p3 p4 p5 p6 p7 p8 sc fo pe) l p).tmps[94]? = some (.pointer (some ⟨w.heap.size + 1, 12, none⟩)) := actOf_dep' v _ l p 94 _ (by omega) (by omega) (hdp 28 (by simp)) rfl
  clear hdp hd ho ht3
  generalize actOf v (rv (w.heap.size + 1) N G Pr x0 x1 x2 x3 x4 x5 d0 d1 d2 d3 d4 d5 d6 d7 d8 n0 n1 n2 n3 n4 n5 n6 n7 n8 p0 p1 p2 p3 p4 p5 p6 p7 p8 sc fo pe) l p = a at *
  obtain ⟨odst, oop, oty, opos, oaft, og⟩ := o
  obtain rfl : odst = some 95 := ht1
  obtain rfl : oop = .indexAddr 31 (.tmp 94) (.const (.int .i64 3)) := ht2
  have hK1 := hK W hS (Below.refl _ _)
  clear hK
  unfold Oper.wp execOp
  go_simp
  exact hK1
set_option maxHeartbeats 1000000 in
theorem op96 {w wr : World} {A : Nat → Value} {ec : List Value} {N G Pr x0 x1 x2 x3 x4 x5 d0 d1 d2 d3 d4 d5 d6 d7 d8 p0 p1 p2 p3 p4 p5 p6 p7 p8 : Int} {n0 n1 n2 n3 n4 n5 n6 n7 n8 : Nat} {sc fo pe : Bool} (v : Nat → Value) (l : Array Bool) (p : Nat) (W : World) (Q : Exit → Act → World → Prop) (K : Act → World → Prop) (o : Oper) (ho : opsR[30]? = some o) (hd : ∀ e ∈ o.after, Region.binds .any e = true → l.getD e.on false = true)
    (hS : EvS w wr A ec N G Pr x0 x1 x2 x3 x4 x5 d0 d1 d2 d3 d4 d5 d6 d7 d8 p0 p1 p2 p3 p4 p5 p6 p7 p8 sc fo pe W) (hK : ∀ W', EvS w wr A ec N G Pr x0 x1 x2 x3 x4 x5 d0 d1 d2 d3 d4 d5 d6 d7 d8 p0 p1 p2 p3 p4 p5 p6 p7 p8 sc fo pe W' → Below W.heap.size W W' → K ((actOf v (rv (w.heap.size + 1) N G Pr x0 x1 x2 x3 x4 x5 d0 d1 d2 d3 d4 d5 d6 d7 d8 n0 n1 n2 n3 n4 n5 n6 n7 n8 p0 p1 p2 p3 p4 p5 p6 p7 p8 sc fo pe) l p).put (some 96) (.int .u8 p3)) W') : o.wp Ybad.prog (actOf v (rv (w.heap.size + 1) N G Pr x0 x1 x2 x3 x4 x5 d0 d1 d2 d3 d4 d5 d6 d7 d8 n0 n1 n2 n3 n4 n5 n6 n7 n8 p0 p1 p2 p3 p4 p5 p6 p7 p8 sc fo pe) l p) W K Q := by
  obtain ⟨ht1, ht2, ht3⟩ := tab_spec (i := 30) rfl rfl ho
  have hdp := dep_chk ht3 hd
  have h95 : (actOf v (rv (w.heap.size + 1) N G Pr x0 x1 x2 x3 x4 x5 d0 d1 d2 d3 d4 d5 d6 d7 d8 n0 n1 n2 n3 n4 n5 n6 n7 n8 p0 p1 p2 p3 p4 p5 p6 p7 p8 sc fo pe) l p).tmps[95]? = some (.pointer (some ⟨w.heap.size + 1, 15, none⟩)) := actOf_dep' v _ l p 95 _ (by omega) (by omega) (hdp 29 (by simp)) rfl
  clear hdp hd ho ht3
  generalize actOf v (rv (w.heap.size + 1) N G Pr x0 x1 x2 x3 x4 x5 d0 d1 d2 d3 d4 d5 d6 d7 d8 n0 n1 n2 n3 n4 n5 n6 n7 n8 p0 p1 p2 p3 p4 p5 p6 p7 p8 sc fo pe) l p = a at *
  obtain ⟨odst, oop, oty, opos, oaft, og⟩ := o
  obtain rfl : odst = some 96 := ht1
  obtain rfl : oop = .load 5 (.tmp 95) := ht2
  have hK1 := hK W hS (Below.refl _ _)
  have hc : W.cell? ⟨w.heap.size + 1, 15, none⟩ = some (.int .u8 p3) := hS.2.2.2.2.2.2.2.2.2.2.2.2.2.2.2.1
  clear hK
  unfold Oper.wp execOp
  go_simp
  exact hK1
set_option maxHeartbeats 1000000 in
theorem op97 {w wr : World} {A : Nat → Value} {ec : List Value} {N G Pr x0 x1 x2 x3 x4 x5 d0 d1 d2 d3 d4 d5 d6 d7 d8 p0 p1 p2 p3 p4 p5 p6 p7 p8 : Int} {n0 n1 n2 n3 n4 n5 n6 n7 n8 : Nat} {sc fo pe : Bool} (v : Nat → Value) (l : Array Bool) (p : Nat) (W : World) (Q : Exit → Act → World → Prop) (K : Act → World → Prop) (o : Oper) (ho : opsR[31]? = some o) (hd : ∀ e ∈ o.after, Region.binds .any e = true → l.getD e.on false = true) (hn : p3 % 20 = ((n3 : Nat) : Int)) (ha : 0 ≤ p3) (hb : p3 ≤ 255)
    (hS : EvS w wr A ec N G Pr x0 x1 x2 x3 x4 x5 d0 d1 d2 d3 d4 d5 d6 d7 d8 p0 p1 p2 p3 p4 p5 p6 p7 p8 sc fo pe W) (hK : ∀ W', EvS w wr A ec N G Pr x0 x1 x2 x3 x4 x5 d0 d1 d2 d3 d4 d5 d6 d7 d8 p0 p1 p2 p3 p4 p5 p6 p7 p8 sc fo pe W' → Below W.heap.size W W' → K ((actOf v (rv (w.heap.size + 1) N G Pr x0 x1 x2 x3 x4 x5 d0 d1 d2 d3 d4 d5 d6 d7 d8 n0 n1 n2 n3 n4 n5 n6 n7 n8 p0 p1 p2 p3 p4 p5 p6 p7 p8 sc fo pe) l p).put (some 97) (.agg #[.int .u64 d3, .int .u8 ((n3 : Nat) : Int)])) W') : o.wp Ybad.prog (actOf v (rv (w.heap.size + 1) N G Pr x0 x1 x2 x3 x4 x5 d0 d1 d2 d3 d4 d5 d6 d7 d8 n0 n1 n2 n3 n4 n5 n6 n7 n8 p0 p1 p2 p3 p4 p5 p6 p7 p8 sc fo pe) l p) W K Q := by
  obtain ⟨ht1, ht2, ht3⟩ := tab_spec (i := 31) rfl rfl ho
  have hdp := dep_chk ht3 hd
  have h93 : (actOf v (rv (w.heap.size + 1) N G Pr x0 x1 x2 x3 x4 x5 d0 d1 d2 d3 d4 d5 d6 d7 d8 n0 n1 n2 n3 n4 n5 n6 n7 n8 p0 p1 p2 p3 p4 p5 p6 p7 p8 sc fo pe) l p).tmps[93]? = some (.int .u64 d3) := actOf_dep' v _ l p 93 _ (by omega) (by omega) (hdp 27 (by simp)) rfl
  have h96 : (actOf v (rv (w.heap.size + 1) N G Pr x0 x1 x2 x3 x4 x5 d0 d1 d2 d3 d4 d5 d6 d7 d8 n0 n1 n2 n3 n4 n5 n6 n7 n8 p0 p1 p2 p3 p4 p5 p6 p7 p8 sc fo pe) l p).tmps[96]? = some (.int .u8 p3) := actOf_dep' v _ l p 96 _ (by omega) (by omega) (hdp 30 (by simp)) rfl
  clear hdp hd ho ht3
  generalize actOf v (rv (w.heap.size + 1) N G Pr x0 x1 x2 x3 x4 x5 d0 d1 d2 d3 d4 d5 d6 d7 d8 n0 n1 n2 n3 n4 n5 n6 n7 n8 p0 p1 p2 p3 p4 p5 p6 p7 p8 sc fo pe) l p = a at *
  obtain ⟨odst, oop, oty, opos, oaft, og⟩ := o
  obtain rfl : odst = some 97 := ht1
  obtain rfl : oop = .call { callee := .value (.func 4), args := #[.tmp 93, .tmp 96], argTypes := #[29, 5] } := ht2
  have HC : Hid (p3 % 20 = ((n3 : Nat) : Int) ∧ 0 ≤ p3 ∧ p3 ≤ 255) := ⟨hn, ha, hb⟩
  clear hn ha hb
  unfold Oper.wp execOp
  go_simp
  refine (num_below d3 p3 n3 HC.out.1 HC.out.2.1 HC.out.2.2 W).mono ?_
  rintro en W' ⟨rfl, hu⟩
  exact hK W' (EvS.up hS hu) hu
set_option maxHeartbeats 1000000 in
theorem op98 {w wr : World} {A : Nat → Value} {ec : List Value} {N G Pr x0 x1 x2 x3 x4 x5 d0 d1 d2 d3 d4 d5 d6 d7 d8 p0 p1 p2 p3 p4 p5 p6 p7 p8 : Int} {n0 n1 n2 n3 n4 n5 n6 n7 n8 : Nat} {sc fo pe : Bool} (v : Nat → Value) (l : Array Bool) (p : Nat) (W : World) (Q : Exit → Act → World → Prop) (K : Act → World → Prop) (o : Oper) (ho : opsR[32]? = some o) (hd : ∀ e ∈ o.after, Region.binds .any e = true → l.getD e.on false = true)
    (hS : EvS w wr A ec N G Pr x0 x1 x2 x3 x4 x5 d0 d1 d2 d3 d4 d5 d6 d7 d8 p0 p1 p2 p3 p4 p5 p6 p7 p8 sc fo pe W) (hK : ∀ W', EvS w wr A ec N G Pr x0 x1 x2 x3 x4 x5 d0 d1 d2 d3 d4 d5 d6 d7 d8 p0 p1 p2 p3 p4 p5 p6 p7 p8 sc fo pe W' → Below W.heap.size W W' → K ((actOf v (rv (w.heap.size + 1) N G Pr x0 x1 x2 x3 x4 x5 d0 d1 d2 d3 d4 d5 d6 d7 d8 n0 n1 n2 n3 n4 n5 n6 n7 n8 p0 p1 p2 p3 p4 p5 p6 p7 p8 sc fo pe) l p).put (some 98) (.agg #[.int .u64 d1, .int .u8 ((n1 : Nat) : Int), .int .u64 d2, .int .u8 ((n2 : Nat) : Int), .int .u64 d3, .int .u8 ((n3 : Nat) : Int)])) W') : o.wp Ybad.prog (actOf v (rv (w.heap.size + 1) N G Pr x0 x1 x2 x3 x4 x5 d0 d1 d2 d3 d4 d5 d6 d7 d8 n0 n1 n2 n3 n4 n5 n6 n7 n8 p0 p1 p2 p3 p4 p5 p6 p7 p8 sc fo pe) l p) W K Q := by
  obtain ⟨ht1, ht2, ht3⟩ := tab_spec (i := 32) rfl rfl ho
  have hdp := dep_chk ht3 hd
  have h83 : (actOf v (rv (w.heap.size + 1) N G Pr x0 x1 x2 x3 x4 x5 d0 d1 d2 d3 d4 d5 d6 d7 d8 n0 n1 n2 n3 n4 n5 n6 n7 n8 p0 p1 p2 p3 p4 p5 p6 p7 p8 sc fo pe) l p).tmps[83]? = some (.agg #[.int .u64 d1, .int .u8 ((n1 : Nat) : Int)]) := actOf_dep' v _ l p 83 _ (by omega) (by omega) (hdp 17 (by simp)) rfl
  have h90 : (actOf v (rv (w.heap.size + 1) N G Pr x0 x1 x2 x3 x4 x5 d0 d1 d2 d3 d4 d5 d6 d7 d8 n0 n1 n2 n3 n4 n5 n6 n7 n8 p0 p1 p2 p3 p4 p5 p6 p7 p8 sc fo pe) l p).tmps[90]? = some (.agg #[.int .u64 d2, .int .u8 ((n2 : Nat) : Int)]) := actOf_dep' v _ l p 90 _ (by omega) (by omega) (hdp 24 (by simp)) rfl
  have h97 : (actOf v (rv (w.heap.size + 1) N G Pr x0 x1 x2 x3 x4 x5 d0 d1 d2 d3 d4 d5 d6 d7 d8 n0 n1 n2 n3 n4 n5 n6 n7 n8 p0 p1 p2 p3 p4 p5 p6 p7 p8 sc fo pe) l p).tmps[97]? = some (.agg #[.int .u64 d3, .int .u8 ((n3 : Nat) : Int)]) := actOf_dep' v _ l p 97 _ (by omega) (by omega) (hdp 31 (by simp)) rfl
  clear hdp hd ho ht3
  generalize actOf v (rv (w.heap.size + 1) N G Pr x0 x1 x2 x3 x4 x5 d0 d1 d2 d3 d4 d5 d6 d7 d8 n0 n1 n2 n3 n4 n5 n6 n7 n8 p0 p1 p2 p3 p4 p5 p6 p7 p8 sc fo pe) l p = a at *
  obtain ⟨odst, oop, oty, opos, oaft, og⟩ := o
  obtain rfl : odst = some 98 := ht1
  obtain rfl : oop = .build 44 #[(0, .tmp 83), (1, .tmp 90), (2, .tmp 97)] := ht2
  have hK1 := hK W hS (Below.refl _ _)
  clear hK
  unfold Oper.wp execOp
  go_simp
  exact hK1
set_option maxHeartbeats 1000000 in
theorem op99 {w wr : World} {A : Nat → Value} {ec : List Value} {N G Pr x0 x1 x2 x3 x4 x5 d0 d1 d2 d3 d4 d5 d6 d7 d8 p0 p1 p2 p3 p4 p5 p6 p7 p8 : Int} {n0 n1 n2 n3 n4 n5 n6 n7 n8 : Nat} {sc fo pe : Bool} (v : Nat → Value) (hv : v 5 = .pointer (some ⟨w.heap.size + 1, 0, none⟩)) (l : Array Bool) (p : Nat) (W : World) (Q : Exit → Act → World → Prop) (K : Act → World → Prop) (o : Oper) (ho : opsR[33]? = some o) (hd : ∀ e ∈ o.after, Region.binds .any e = true → l.getD e.on false = true)
    (hS : EvS w wr A ec N G Pr x0 x1 x2 x3 x4 x5 d0 d1 d2 d3 d4 d5 d6 d7 d8 p0 p1 p2 p3 p4 p5 p6 p7 p8 sc fo pe W) (hK : ∀ W', EvS w wr A ec N G Pr x0 x1 x2 x3 x4 x5 d0 d1 d2 d3 d4 d5 d6 d7 d8 p0 p1 p2 p3 p4 p5 p6 p7 p8 sc fo pe W' → Below W.heap.size W W' → K ((actOf v (rv (w.heap.size + 1) N G Pr x0 x1 x2 x3 x4 x5 d0 d1 d2 d3 d4 d5 d6 d7 d8 n0 n1 n2 n3 n4 n5 n6 n7 n8 p0 p1 p2 p3 p4 p5 p6 p7 p8 sc fo pe) l p).put (some 99) (.pointer (some ⟨w.heap.size + 1, 3, none⟩))) W') : o.wp Ybad.prog (actOf v (rv (w.heap.size + 1) N G Pr x0 x1 x2 x3 x4 x5 d0 d1 d2 d3 d4 d5 d6 d7 d8 n0 n1 n2 n3 n4 n5 n6 n7 n8 p0 p1 p2 p3 p4 p5 p6 p7 p8 sc fo pe) l p) W K Q := by
  obtain ⟨ht1, ht2, ht3⟩ := tab_spec (i := 33) rfl rfl ho
  have hdp := dep_chk ht3 hd
  have e5 := actOf_five' v (rv (w.heap.size + 1) N G Pr x0 x1 x2 x3 x4 x5 d0 d1 d2 d3 d4 d5 d6 d7 d8 n0 n1 n2 n3 n4 n5 n6 n7 n8 p0 p1 p2 p3 p4 p5 p6 p7 p8 sc fo pe) l p
  rw [hv] at e5
  clear hv

  clear hdp hd ho ht3
  generalize actOf v (rv (w.heap.size + 1) N G Pr x0 x1 x2 x3 x4 x5 d0 d1 d2 d3 d4 d5 d6 d7 d8 n0 n1 n2 n3 n4 n5 n6 n7 n8 p0 p1 p2 p3 p4 p5 p6 p7 p8 sc fo pe) l p = a at *
  obtain ⟨odst, oop, oty, opos, oaft, og⟩ := o
  obtain rfl : odst = some 99 := ht1
  obtain rfl : oop = .fieldAddr 33 (.tmp 5) 3 := ht2
  have hK1 := hK W hS (Below.refl _ _)
  clear hK
  unfold Oper.wp execOp
  go_simp
  exact hK1
set_option maxHeartbeats 1000000 in
theorem op100 {w wr : World} {A : Nat → Value} {ec : List Value} {N G Pr x0 x1 x2 x3 x4 x5 d0 d1 d2 d3 d4 d5 d6 d7 d8 p0 p1 p2 p3 p4 p5 p6 p7 p8 : Int} {n0 n1 n2 n3 n4 n5 n6 n7 n8 : Nat} {sc fo pe : Bool} (v : Nat → Value) (l : Array Bool) (p : Nat) (W : World) (Q : Exit → Act → World → Prop) (K : Act → World → Prop) (o : Oper) (ho : opsR[34]? = some o) (hd : ∀ e ∈ o.after, Region.binds .any e = true → l.getD e.on false = true)
    (hS : EvS w wr A ec N G Pr x0 x1 x2 x3 x4 x5 d0 d1 d2 d3 d4 d5 d6 d7 d8 p0 p1 p2 p3 p4 p5 p6 p7 p8 sc fo pe W) (hK : ∀ W', EvS w wr A ec N G Pr x0 x1 x2 x3 x4 x5 d0 d1 d2 d3 d4 d5 d6 d7 d8 p0 p1 p2 p3 p4 p5 p6 p7 p8 sc fo pe W' → Below W.heap.size W W' → K ((actOf v (rv (w.heap.size + 1) N G Pr x0 x1 x2 x3 x4 x5 d0 d1 d2 d3 d4 d5 d6 d7 d8 n0 n1 n2 n3 n4 n5 n6 n7 n8 p0 p1 p2 p3 p4 p5 p6 p7 p8 sc fo pe) l p).put (some 100) (.pointer (some ⟨w.heap.size + 1, 7, none⟩))) W') : o.wp Ybad.prog (actOf v (rv (w.heap.size + 1) N G Pr x0 x1 x2 x3 x4 x5 d0 d1 d2 d3 d4 d5 d6 d7 d8 n0 n1 n2 n3 n4 n5 n6 n7 n8 p0 p1 p2 p3 p4 p5 p6 p7 p8 sc fo pe) l p) W K Q := by
  obtain ⟨ht1, ht2, ht3⟩ := tab_spec (i := 34) rfl rfl ho
  have hdp := dep_chk ht3 hd
  have h99 : (actOf v (rv (w.heap.size + 1) N G Pr x0 x1 x2 x3 x4 x5 d0 d1 d2 d3 d4 d5 d6 d7 d8 n0 n1 n2 n3 n4 n5 n6 n7 n8 p0 p1 p2 p3 p4 p5 p6 p7 p8 sc fo pe) l p).tmps[99]? = some (.pointer (some ⟨w.heap.size + 1, 3, none⟩)) := actOf_dep' v _ l p 99 _ (by omega) (by omega) (hdp 33 (by simp)) rfl
  clear hdp hd ho ht3
  generalize actOf v (rv (w.heap.size + 1) N G Pr x0 x1 x2 x3 x4 x5 d0 d1 d2 d3 d4 d5 d6 d7 d8 n0 n1 n2 n3 n4 n5 n6 n7 n8 p0 p1 p2 p3 p4 p5 p6 p7 p8 sc fo pe) l p = a at *
  obtain ⟨odst, oop, oty, opos, oaft, og⟩ := o
  obtain rfl : odst = some 100 := ht1
  obtain rfl : oop = .indexAddr 30 (.tmp 99) (.const (.int .i64 4)) := ht2
  have hK1 := hK W hS (Below.refl _ _)
  clear hK
  unfold Oper.wp execOp
  go_simp
  exact hK1
set_option maxHeartbeats 1000000 in
theorem op101 {w wr : World} {A : Nat → Value} {ec : List Value} {N G Pr x0 x1 x2 x3 x4 x5 d0 d1 d2 d3 d4 d5 d6 d7 d8 p0 p1 p2 p3 p4 p5 p6 p7 p8 : Int} {n0 n1 n2 n3 n4 n5 n6 n7 n8 : Nat} {sc fo pe : Bool} (v : Nat → Value) (l : Array Bool) (p : Nat) (W : World) (Q : Exit → Act → World → Prop) (K : Act → World → Prop) (o : Oper) (ho : opsR[35]? = some o) (hd : ∀ e ∈ o.after, Region.binds .any e = true → l.getD e.on false = true)
    (hS : EvS w wr A ec N G Pr x0 x1 x2 x3 x4 x5 d0 d1 d2 d3 d4 d5 d6 d7 d8 p0 p1 p2 p3 p4 p5 p6 p7 p8 sc fo pe W) (hK : ∀ W', EvS w wr A ec N G Pr x0 x1 x2 x3 x4 x5 d0 d1 d2 d3 d4 d5 d6 d7 d8 p0 p1 p2 p3 p4 p5 p6 p7 p8 sc fo pe W' → Below W.heap.size W W' → K ((actOf v (rv (w.heap.size + 1) N G Pr x0 x1 x2 x3 x4 x5 d0 d1 d2 d3 d4 d5 d6 d7 d8 n0 n1 n2 n3 n4 n5 n6 n7 n8 p0 p1 p2 p3 p4 p5 p6 p7 p8 sc fo pe) l p).put (some 101) (.int .u64 d4)) W') : o.wp Ybad.prog (actOf v (rv (w.heap.size + 1) N G Pr x0 x1 x2 x3 x4 x5 d0 d1 d2 d3 d4 d5 d6 d7 d8 n0 n1 n2 n3 n4 n5 n6 n7 n8 p0 p1 p2 p3 p4 p5 p6 p7 p8 sc fo pe) l p) W K Q := by
  obtain ⟨ht1, ht2, ht3⟩ := tab_spec (i := 35) rfl rfl ho
  have hdp := dep_chk ht3 hd
  have h100 : (actOf v (rv (w.heap.size + 1) N G Pr x0 x1 x2 x3 x4 x5 d0 d1 d2 d3 d4 d5 d6 d7 d8 n0 n1 n2 n3 n4 n5 n6 n7 n8 p0 p1 p2 p3 p4 p5 p6 p7 p8 sc fo pe) l p).tmps[100]? = some (.pointer (some ⟨w.heap.size + 1, 7, none⟩)) := actOf_dep' v _ l p 100 _ (by omega) (by omega) (hdp 34 (by simp)) rfl
  clear hdp hd ho ht3
  generalize actOf v (rv (w.heap.size + 1) N G Pr x0 x1 x2 x3 x4 x5 d0 d1 d2 d3 d4 d5 d6 d7 d8 n0 n1 n2 n3 n4 n5 n6 n7 n8 p0 p1 p2 p3 p4 p5 p6 p7 p8 sc fo pe) l p = a at *
  obtain ⟨odst, oop, oty, opos, oaft, og⟩ := o
  obtain rfl : odst = some 101 := ht1
  obtain rfl : oop = .load 29 (.tmp 100) := ht2
  have hK1 := hK W hS (Below.refl _ _)
  have hc : W.cell? ⟨w.heap.size + 1, 7, none⟩ = some (.int .u64 d4) := hS.2.2.2.2.2.2.2.1
  clear hK
  unfold Oper.wp execOp
  go_simp
  exact hK1
set_option maxHeartbeats 1000000 in
theorem op102 {w wr : World} {A : Nat → Value} {ec : List Value} {N G Pr x0 x1 x2 x3 x4 x5 d0 d1 d2 d3 d4 d5 d6 d7 d8 p0 p1 p2 p3 p4 p5 p6 p7 p8 : Int} {n0 n1 n2 n3 n4 n5 n6 n7 n8 : Nat} {sc fo pe : Bool} (v : Nat → Value) (hv : v 5 = .pointer (some ⟨w.heap.size + 1, 0, none⟩)) (l : Array Bool) (p : Nat) (W : World) (Q : Exit → Act → World → Prop) (K : Act → World → Prop) (o : Oper) (ho : opsR[36]? = some o) (hd : ∀ e ∈ o.after, Region.binds .any e = true → l.getD e.on false = true)
    (hS : EvS w wr A ec N G Pr x0 x1 x2 x3 x4 x5 d0 d1 d2 d3 d4 d5 d6 d7 d8 p0 p1 p2 p3 p4 p5 p6 p7 p8 sc fo pe W) (hK : ∀ W', EvS w wr A ec N G Pr x0 x1 x2 x3 x4 x5 d0 d1 d2 d3 d4 d5 d6 d7 d8 p0 p1 p2 p3 p4 p5 p6 p7 p8 sc fo pe W' → Below W.heap.size W W' → K ((actOf v (rv (w.heap.size + 1) N G Pr x0 x1 x2 x3 x4 x5 d0 d1 d2 d3 d4 d5 d6 d7 d8 n0 n1 n2 n3 n4 n5 n6 n7 n8 p0 p1 p2 p3 p4 p5 p6 p7 p8 sc fo pe) l p).put (some 102) (.pointer (some ⟨w.heap.size + 1, 12, none⟩))) W') : o.wp Ybad.prog (actOf v (rv (w.heap.size + 1) N G Pr x0 x1 x2 x3 x4 x5 d0 d1 d2 d3 d4 d5 d6 d7 d8 n0 n1 n2 n3 n4 n5 n6 n7 n8 p0 p1 p2 p3 p4 p5 p6 p7 p8 sc fo pe) l p) W K Q := by
  obtain ⟨ht1, ht2, ht3⟩ := tab_spec (i := 36) rfl rfl ho
  have hdp := dep_chk ht3 hd
  have e5 := actOf_five' v (rv (w.heap.size + 1) N G Pr x0 x1 x2 x3 x4 x5 d0 d1 d2 d3 d4 d5 d6 d7 d8 n0 n1 n2 n3 n4 n5 n6 n7 n8 p0 p1 p2 p3 p4 p5 p6 p7 p8 sc fo pe) l p
  rw [hv] at e5
  clear hv

  clear hdp hd ho ht3
  generalize actOf v (rv (w.heap.size + 1) N G Pr x0 x1 x2 x3 x4 x5 d0 d1 d2 d3 d4 d5 d6 d7 d8 n0 n1 n2 n3 n4 n5 n6 n7 n8 p0 p1 p2 p3 p4 p5 p6 p7 p8 sc fo pe) l p = a at *
  obtain ⟨odst, oop, oty, opos, oaft, og⟩ := o
  obtain rfl : odst = some 102 := ht1
  obtain rfl : oop = .fieldAddr 33 (.tmp 5) 4 := ht2
  have hK1 := hK W hS (Below.refl _ _)
  clear hK
  unfold Oper.wp execOp
  go_simp
  exact hK1
set_option maxHeartbeats 1000000 in
theorem op103 {w wr : World} {A : Nat → Value} {ec : List Value} {N G Pr x0 x1 x2 x3 x4 x5 d0 d1 d2 d3 d4 d5 d6 d7 d8 p0 p1 p2 p3 p4 p5 p6 p7 p8 : Int} {n0 n1 n2 n3 n4 n5 n6 n7 n8 : Nat} {sc fo pe : Bool} (v : Nat → Value) (l : Array Bool) (p : Nat) (W : World) (Q : Exit → Act → World → Prop) (K : Act → World → Prop) (o : Oper) (ho : opsR[37]? = some o) (hd : ∀ e ∈ o.after, Region.binds .any e = true → l.getD e.on false = true)
    (hS : EvS w wr A ec N G Pr x0 x1 x2 x3 x4 x5 d0 d1 d2 d3 d4 d5 d6 d7 d8 p0 p1 p2 p3 p4 p5 p6 p7 p8 sc fo pe W) (hK : ∀ W', EvS w wr A ec N G Pr x0 x1 x2 x3 x4 x5 d0 d1 d2 d3 d4 d5 d6 d7 d8 p0 p1 p2 p3 p4 p5 p6 p7 p8 sc fo pe W' → Below W.heap.size W W' → K ((actOf v (rv (w.heap.size + 1) N G Pr x0 x1 x2 x3 x4 x5 d0 d1 d2 d3 d4 d5 d6 d7 d8 n0 n1 n2 n3 n4 n5 n6 n7 n8 p0 p1 p2 p3 p4 p5 p6 p7 p8 sc fo pe) l p).put (some 103) (.pointer (some ⟨w.heap.size + 1, 16, none⟩))) W') : o.wp Ybad.prog (actOf v (rv (w.heap.size + 1) N G Pr x0 x1 x2 x3 x4 x5 d0 d1 d2 d3 d4 d5 d6 d7 d8 n0 n1 n2 n3 n4 n5 n6 n7 n8 p0 p1 p2 p3 p4 p5 p6 p7 p8 sc fo pe) l p) W K Q := by
  obtain ⟨ht1, ht2, ht3⟩ := tab_spec (i := 37) rfl rfl ho
  have hdp := dep_chk ht3 hd
  have h102 : (actOf v (rv (w.heap.size + 1) N G Pr x0 x1 x2 x3 x4 x5 d0 d1 d2 d3 d4 d5 d6 d7 d8 n0 n1 n2 n3 n4 n5 n6 n7 n8 p0 p1 p2 p3 p4 p5 p6 p7 p8 sc fo pe) l p).tmps[102]? = some (.pointer (some ⟨w.heap.size + 1, 12, none⟩)) := actOf_dep' v _ l p 102 _ (by omega) (by omega) (hdp 36 (by simp)) rfl
  clear hdp hd ho ht3
  generalize actOf v (rv (w.heap.size + 1) N G Pr x0 x1 x2 x3 x4 x5 d0 d1 d2 d3 d4 d5 d6 d7 d8 n0 n1 n2 n3 n4 n5 n6 n7 n8 p0 p1 p2 p3 p4 p5 p6 p7 p8 sc fo pe) l p = a at *
  obtain ⟨odst, oop, oty, opos, oaft, og⟩ := o
  obtain rfl : odst = some 103 := ht1
  obtain rfl : oop = .indexAddr 31 (.tmp 102) (.const (.int .i64 4)) := ht2
  have hK1 := hK W hS (Below.refl _ _)
  clear hK
  unfold Oper.wp execOp
  go_simp
  exact hK1
set_option maxHeartbeats 1000000 in
theorem op104 {w wr : World} {A : Nat → Value} {ec : List Value} {N G Pr x0 x1 x2 x3 x4 x5 d0 d1 d2 d3 d4 d5 d6 d7 d8 p0 p1 p2 p3 p4 p5 p6 p7 p8 : Int} {n0 n1 n2 n3 n4 n5 n6 n7 n8 : Nat} {sc fo pe : Bool} (v : Nat → Value) (l : Array Bool) (p : Nat) (W : World) (Q : Exit → Act → World → Prop) (K : Act → World → Prop) (o : Oper) (ho : opsR[38]? = some o) (hd : ∀ e ∈ o.after, Region.binds .any e = true → l.getD e.on false = true)
    (hS : EvS w wr A ec N G Pr x0 x1 x2 x3 x4 x5 d0 d1 d2 d3 d4 d5 d6 d7 d8 p0 p1 p2 p3 p4 p5 p6 p7 p8 sc fo pe W) (hK : ∀ W', EvS w wr A ec N G Pr x0 x1 x2 x3 x4 x5 d0 d1 d2 d3 d4 d5 d6 d7 d8 p0 p1 p2 p3 p4 p5 p6 p7 p8 sc fo pe W' → Below W.heap.size W W' → K ((actOf v (rv (w.heap.size + 1) N G Pr x0 x1 x2 x3 x4 x5 d0 d1 d2 d3 d4 d5 d6 d7 d8 n0 n1 n2 n3 n4 n5 n6 n7 n8 p0 p1 p2 p3 p4 p5 p6 p7 p8 sc fo pe) l p).put (some 104) (.int .u8 p4)) W') : o.wp Ybad.prog (actOf v (rv (w.heap.size + 1) N G Pr x0 x1 x2 x3 x4 x5 d0 d1 d2 d3 d4 d5 d6 d7 d8 n0 n1 n2 n3 n4 n5 n6 n7 n8 p0 p1 p2 p3 p4 p5 p6 p7 p8 sc fo pe) l p) W K Q := by
  obtain ⟨ht1, ht2, ht3⟩ := tab_spec (i := 38) rfl rfl ho
  have hdp := dep_chk ht3 hd
  have h103 : (actOf v (rv (w.heap.size + 1) N G Pr x0 x1 x2 x3 x4 x5 d0 d1 d2 d3 d4 d5 d6 d7 d8 n0 n1 n2 n3 n4 n5 n6 n7 n8 p0 p1 p2 p3 p4 p5 p6 p7 p8 sc fo pe) l p).tmps[103]? = some (.pointer (some ⟨w.heap.size + 1, 16, none⟩)) := actOf_dep' v _ l p 103 _ (by omega) (by omega) (hdp 37 (by simp)) rfl
  clear hdp hd ho ht3
  generalize actOf v (rv (w.heap.size + 1) N G Pr x0 x1 x2 x3 x4 x5 d0 d1 d2 d3 d4 d5 d6 d7 d8 n0 n1 n2 n3 n4 n5 n6 n7 n8 p0 p1 p2 p3 p4 p5 p6 p7 p8 sc fo pe) l p = a at *
  obtain ⟨odst, oop, oty, opos, oaft, og⟩ := o
  obtain rfl : odst = some 104 := ht1
  obtain rfl : oop = .load 5 (.tmp 103) := ht2
  have hK1 := hK W hS (Below.refl _ _)
  have hc : W.cell? ⟨w.heap.size + 1, 16, none⟩ = some (.int .u8 p4) := hS.2.2.2.2.2.2.2.2.2.2.2.2.2.2.2.2.1
  clear hK
  unfold Oper.wp execOp
  go_simp
  exact hK1
set_option maxHeartbeats 1000000 in
theorem op105 {w wr : World} {A : Nat → Value} {ec : List Value} {N G Pr x0 x1 x2 x3 x4 x5 d0 d1 d2 d3 d4 d5 d6 d7 d8 p0 p1 p2 p3 p4 p5 p6 p7 p8 : Int} {n0 n1 n2 n3 n4 n5 n6 n7 n8 : Nat} {sc fo pe : Bool} (v : Nat → Value) (l : Array Bool) (p : Nat) (W : World) (Q : Exit → Act → World → Prop) (K : Act → World → Prop) (o : Oper) (ho : opsR[39]? = some o) (hd : ∀ e ∈ o.after, Region.binds .any e = true → l.getD e.on false = true) (hn : p4 % 20 = ((n4 : Nat) : Int)) (ha : 0 ≤ p4) (hb : p4 ≤ 255)
    (hS : EvS w wr A ec N G Pr x0 x1 x2 x3 x4 x5 d0 d1 d2 d3 d4 d5 d6 d7 d8 p0 p1 p2 p3 p4 p5 p6 p7 p8 sc fo pe W) (hK : ∀ W', EvS w wr A ec N G Pr x0 x1 x2 x3 x4 x5 d0 d1 d2 d3 d4 d5 d6 d7 d8 p0 p1 p2 p3 p4 p5 p6 p7 p8 sc fo pe W' → Below W.heap.size W W' → K ((actOf v (rv (w.heap.size + 1) N G Pr x0 x1 x2 x3 x4 x5 d0 d1 d2 d3 d4 d5 d6 d7 d8 n0 n1 n2 n3 n4 n5 n6 n7 n8 p0 p1 p2 p3 p4 p5 p6 p7 p8 sc fo pe) l p).put (some 105) (.agg #[.int .u64 d4, .int .u8 ((n4 : Nat) : Int)])) W') : o.wp Ybad.prog (actOf v (rv (w.heap.size + 1) N G Pr x0 x1 x2 x3 x4 x5 d0 d1 d2 d3 d4 d5 d6 d7 d8 n0 n1 n2 n3 n4 n5 n6 n7 n8 p0 p1 p2 p3 p4 p5 p6 p7 p8 sc fo pe) l p) W K Q := by
  obtain ⟨ht1, ht2, ht3⟩ := tab_spec (i := 39) rfl rfl ho
  have hdp := dep_chk ht3 hd
  have h101 : (actOf v (rv (w.heap.size + 1) N G Pr x0 x1 x2 x3 x4 x5 d0 d1 d2 d3 d4 d5 d6 d7 d8 n0 n1 n2 n3 n4 n5 n6 n7 n8 p0 p1 p2 p3 p4 p5 p6 p7 p8 sc fo pe) l p).tmps[101]? = some (.int .u64 d4) := actOf_dep' v _ l p 101 _ (by omega) (by omega) (hdp 35 (by simp)) rfl
  have h104 : (actOf v (rv (w.heap.size + 1) N G Pr x0 x1 x2 x3 x4 x5 d0 d1 d2 d3 d4 d5 d6 d7 d8 n0 n1 n2 n3 n4 n5 n6 n7 n8 p0 p1 p2 p3 p4 p5 p6 p7 p8 sc fo pe) l p).tmps[104]? = some (.int .u8 p4) := actOf_dep' v _ l p 104 _ (by omega) (by omega) (hdp 38 (by simp)) rfl
  clear hdp hd ho ht3
  generalize actOf v (rv (w.heap.size + 1) N G Pr x0 x1 x2 x3 x4 x5 d0 d1 d2 d3 d4 d5 d6 d7 d8 n0 n1 n2 n3 n4 n5 n6 n7 n8 p0 p1 p2 p3 p4 p5 p6 p7 p8 sc fo pe) l p = a at *
  obtain ⟨odst, oop, oty, opos, oaft, og⟩ := o
  obtain rfl : odst = some 105 := ht1
  obtain rfl : oop = .call { callee := .value (.func 4), args := #[.tmp 101, .tmp 104], argTypes := #[29, 5] } := ht2
  have HC : Hid (p4 % 20 = ((n4 : Nat) : Int) ∧ 0 ≤ p4 ∧ p4 ≤ 255) := ⟨hn, ha, hb⟩
  clear hn ha hb
  unfold Oper.wp execOp
  go_simp
  refine (num_below d4 p4 n4 HC.out.1 HC.out.2.1 HC.out.2.2 W).mono ?_
  rintro en W' ⟨rfl, hu⟩
  exact hK W' (EvS.up hS hu) hu
set_option maxHeartbeats 1000000 in
theorem op106 {w wr : World} {A : Nat → Value} {ec : List Value} {N G Pr x0 x1 x2 x3 x4 x5 d0 d1 d2 d3 d4 d5 d6 d7 d8 p0 p1 p2 p3 p4 p5 p6 p7 p8 : Int} {n0 n1 n2 n3 n4 n5 n6 n7 n8 : Nat} {sc fo pe : Bool} (v : Nat → Value) (hv : v 5 = .pointer (some ⟨w.heap.size + 1, 0, none⟩)) (l : Array Bool) (p : Nat) (W : World) (Q : Exit → Act → World → Prop) (K : Act → World → Prop) (o : Oper) (ho : opsR[40]? = some o) (hd : ∀ e ∈ o.after, Region.binds .any e = true → l.getD e.on false = true)
    (hS : EvS w wr A ec N G Pr x0 x1 x2 x3 x4 x5 d0 d1 d2 d3 d4 d5 d6 d7 d8 p0 p1 p2 p3 p4 p5 p6 p7 p8 sc fo pe W) (hK : ∀ W', EvS w wr A ec N G Pr x0 x1 x2 x3 x4 x5 d0 d1 d2 d3 d4 d5 d6 d7 d8 p0 p1 p2 p3 p4 p5 p6 p7 p8 sc fo pe W' → Below W.heap.size W W' → K ((actOf v (rv (w.heap.size + 1) N G Pr x0 x1 x2 x3 x4 x5 d0 d1 d2 d3 d4 d5 d6 d7 d8 n0 n1 n2 n3 n4 n5 n6 n7 n8 p0 p1 p2 p3 p4 p5 p6 p7 p8 sc fo pe) l p).put (some 106) (.pointer (some ⟨w.heap.size + 1, 3, none⟩))) W') : o.wp Ybad.prog (actOf v (rv (w.heap.size + 1) N G Pr x0 x1 x2 x3 x4 x5 d0 d1 d2 d3 d4 d5 d6 d7 d8 n0 n1 n2 n3 n4 n5 n6 n7 n8 p0 p1 p2 p3 p4 p5 p6 p7 p8 sc fo pe) l p) W K Q := by
  obtain ⟨ht1, ht2, ht3⟩ := tab_spec (i := 40) rfl rfl ho
  have hdp := dep_chk ht3 hd
  have e5 := actOf_five' v (rv (w.heap.size + 1) N G Pr x0 x1 x2 x3 x4 x5 d0 d1 d2 d3 d4 d5 d6 d7 d8 n0 n1 n2 n3 n4 n5 n6 n7 n8 p0 p1 p2 p3 p4 p5 p6 p7 p8 sc fo pe) l p
  rw [hv] at e5
  clear hv

  clear hdp hd ho ht3
  generalize actOf v (rv (w.heap.size + 1) N G Pr x0 x1 x2 x3 x4 x5 d0 d1 d2 d3 d4 d5 d6 d7 d8 n0 n1 n2 n3 n4 n5 n6 n7 n8 p0 p1 p2 p3 p4 p5 p6 p7 p8 sc fo pe) l p = a at *
  obtain ⟨odst, oop, oty, opos, oaft, og⟩ := o
  obtain rfl : odst = some 106 := ht1
  obtain rfl : oop = .fieldAddr 33 (.tmp 5) 3 := ht2
  have hK1 := hK W hS (Below.refl _ _)
  clear hK
  unfold Oper.wp execOp
  go_simp
  exact hK1
set_option maxHeartbeats 1000000 in
theorem op107 {w wr : World} {A : Nat → Value} {ec : List Value} {N G Pr x0 x1 x2 x3 x4 x5 d0 d1 d2 d3 d4 d5 d6 d7 d8 p0 p1 p2 p3 p4 p5 p6 p7 p8 : Int} {n0 n1 n2 n3 n4 n5 n6 n7 n8 : Nat} {sc fo pe : Bool} (v : Nat → Value) (l : Array Bool) (p : Nat) (W : World) (Q : Exit → Act → World → Prop) (K : Act → World → Prop) (o : Oper) (ho : opsR[41]? = some o) (hd : ∀ e ∈ o.after, Region.binds .any e = true → l.getD e.on false = true)
    (hS : EvS w wr A ec N G Pr x0 x1 x2 x3 x4 x5 d0 d1 d2 d3 d4 d5 d6 d7 d8 p0 p1 p2 p3 p4 p5 p6 p7 p8 sc fo pe W) (hK : ∀ W', EvS w wr A ec N G Pr x0 x1 x2 x3 x4 x5 d0 d1 d2 d3 d4 d5 d6 d7 d8 p0 p1 p2 p3 p4 p5 p6 p7 p8 sc fo pe W' → Below W.heap.size W W' → K ((actOf v (rv (w.heap.size + 1) N G Pr x0 x1 x2 x3 x4 x5 d0 d1 d2 d3 d4 d5 d6 d7 d8 n0 n1 n2 n3 n4 n5 n6 n7 n8 p0 p1 p2 p3 p4 p5 p6 p7 p8 sc fo pe) l p).put (some 107) (.pointer (some ⟨w.heap.size + 1, 8, none⟩))) W') : o.wp Ybad.prog (actOf v (rv (w.heap.size + 1) N G Pr x0 x1 x2 x3 x4 x5 d0 d1 d2 d3 d4 d5 d6 d7 d8 n0 n1 n2 n3 n4 n5 n6 n7 n8 p0 p1 p2 p3 p4 p5 p6 p7 p8 sc fo pe) l p) W K Q := by
  obtain ⟨ht1, ht2, ht3⟩ := tab_spec (i := 41) rfl rfl ho
  have hdp := dep_chk ht3 hd
  have h106 : (actOf v (rv (w.heap.size + 1) N G Pr x0 x1 x2 x3 x4 x5 d0 d1 d2 d3 d4 d5 d6 d7 d8 n0 n1 n2 n3 n4 n5 n6 n7 n8 p0 p1 p2 p3 p4 p5 p6 p7 p8 sc fo pe) l p).tmps[106]? = some (.pointer (some ⟨w.heap.size + 1, 3, none⟩)) := actOf_dep' v _ l p 106 _ (by omega) (by omega) (hdp 40 (by simp)) rfl
  clear hdp hd ho ht3
  generalize actOf v (rv (w.heap.size + 1) N G Pr x0 x1 x2 x3 x4 x5 d0 d1 d2 d3 d4 d5 d6 d7 d8 n0 n1 n2 n3 n4 n5 n6 n7 n8 p0 p1 p2 p3 p4 p5 p6 p7 p8 sc fo pe) l p = a at *
  obtain ⟨odst, oop, oty, opos, oaft, og⟩ := o
  obtain rfl : odst = some 107 := ht1
  obtain rfl : oop = .indexAddr 30 (.tmp 106) (.const (.int .i64 5)) := ht2
  have hK1 := hK W hS (Below.refl _ _)
  clear hK
  unfold Oper.wp execOp
  go_simp
  exact hK1
set_option maxHeartbeats 1000000 in
theorem op108 {w wr : World} {A : Nat → Value} {ec : List Value} {N G Pr x0 x1 x2 x3 x4 x5 d0 d1 d2 d3 d4 d5 d6 d7 d8 p0 p1 p2 p3 p4 p5 p6 p7 p8 : Int} {n0 n1 n2 n3 n4 n5 n6 n7 n8 : Nat} {sc fo pe : Bool} (v : Nat → Value) (l : Array Bool) (p : Nat) (W : World) (Q : Exit → Act → World → Prop) (K : Act → World → Prop) (o : Oper) (ho : opsR[42]? = some o) (hd : ∀ e ∈ o.after, Region.binds .any e = true → l.getD e.on false = true)
    (hS : EvS w wr A ec N G Pr x0 x1 x2 x3 x4 x5 d0 d1 d2 d3 d4 d5 d6 d7 d8 p0 p1 p2 p3 p4 p5 p6 p7 p8 sc fo pe W) (hK : ∀ W', EvS w wr A ec N G Pr x0 x1 x2 x3 x4 x5 d0 d1 d2 d3 d4 d5 d6 d7 d8 p0 p1 p2 p3 p4 p5 p6 p7 p8 sc fo pe W' → Below W.heap.size W W' → K ((actOf v (rv (w.heap.size + 1) N G Pr x0 x1 x2 x3 x4 x5 d0 d1 d2 d3 d4 d5 d6 d7 d8 n0 n1 n2 n3 n4 n5 n6 n7 n8 p0 p1 p2 p3 p4 p5 p6 p7 p8 sc fo pe) l p).put (some 108) (.int .u64 d5)) W') : o.wp Ybad.prog (actOf v (rv (w.heap.size + 1) N G Pr x0 x1 x2 x3 x4 x5 d0 d1 d2 d3 d4 d5 d6 d7 d8 n0 n1 n2 n3 n4 n5 n6 n7 n8 p0 p1 p2 p3 p4 p5 p6 p7 p8 sc fo pe) l p) W K Q := by
  obtain ⟨ht1, ht2, ht3⟩ := tab_spec (i := 42) rfl rfl ho
  have hdp := dep_chk ht3 hd
  have h107 : (actOf v (rv (w.heap.size + 1) N G Pr x0 x1 x2 x3 x4 x5 d0 d1 d2 d3 d4 d5 d6 d7 d8 n0 n1 n2 n3 n4 n5 n6 n7 n8 p0 p1 p2 p3 p4 p5 p6 p7 p8 sc fo pe) l p).tmps[107]? = some (.pointer (some ⟨w.heap.size + 1, 8, none⟩)) := actOf_dep' v _ l p 107 _ (by omega) (by omega) (hdp 41 (by simp)) rfl
  clear hdp hd ho ht3
  generalize actOf v (rv (w.heap.size + 1) N G Pr x0 x1 x2 x3 x4 x5 d0 d1 d2 d3 d4 d5 d6 d7 d8 n0 n1 n2 n3 n4 n5 n6 n7 n8 p0 p1 p2 p3 p4 p5 p6 p7 p8 sc fo pe) l p = a at *
  obtain ⟨odst, oop, oty, opos, oaft, og⟩ := o
  obtain rfl : odst = some 108 := ht1
  obtain rfl : oop = .load 29 (.tmp 107) := ht2
  have hK1 := hK W hS (Below.refl _ _)
  have hc : W.cell? ⟨w.heap.size + 1, 8, none⟩ = some (.int .u64 d5) := hS.2.2.2.2.2.2.2.2.1
  clear hK
  unfold Oper.wp execOp
  go_simp
  exact hK1
set_option maxHeartbeats 1000000 in
theorem op109 {w wr : World} {A : Nat → Value} {ec : List Value} {N G Pr x0 x1 x2 x3 x4 x5 d0 d1 d2 d3 d4 d5 d6 d7 d8 p0 p1 p2 p3 p4 p5 p6 p7 p8 : Int} {n0 n1 n2 n3 n4 n5 n6 n7 n8 : Nat} {sc fo pe : Bool} (v : Nat → Value) (hv : v 5 = .pointer (some ⟨w.heap.size + 1, 0, none⟩)) (l : Array Bool) (p : Nat) (W : World) (Q : Exit → Act → World → Prop) (K : Act → World → Prop) (o : Oper) (ho : opsR[43]? = some o) (hd : ∀ e ∈ o.after, Region.binds .any e = true → l.getD e.on false = true)
    (hS : EvS w wr A ec N G Pr x0 x1 x2 x3 x4 x5 d0 d1 d2 d3 d4 d5 d6 d7 d8 p0 p1 p2 p3 p4 p5 p6 p7 p8 sc fo pe W) (hK : ∀ W', EvS w wr A ec N G Pr x0 x1 x2 x3 x4 x5 d0 d1 d2 d3 d4 d5 d6 d7 d8 p0 p1 p2 p3 p4 p5 p6 p7 p8 sc fo pe W' → Below W.heap.size W W' → K ((actOf v (rv (w.heap.size + 1) N G Pr x0 x1 x2 x3 x4 x5 d0 d1 d2 d3 d4 d5 d6 d7 d8 n0 n1 n2 n3 n4 n5 n6 n7 n8 p0 p1 p2 p3 p4 p5 p6 p7 p8 sc fo pe) l p).put (some 109) (.pointer (some ⟨w.heap.size + 1, 12, none⟩))) W') : o.wp Ybad.prog (actOf v (rv (w.heap.size + 1) N G Pr x0 x1 x2 x3 x4 x5 d0 d1 d2 d3 d4 d5 d6 d7 d8 n0 n1 n2 n3 n4 n5 n6 n7 n8 p0 p1 p2 p3 p4 p5 p6 p7 p8 sc fo pe) l p) W K Q := by
  obtain ⟨ht1, ht2, ht3⟩ := tab_spec (i := 43) rfl rfl ho
  have hdp := dep_chk ht3 hd
  have e5 := actOf_five' v (rv (w.heap.size + 1) N G Pr x0 x1 x2 x3 x4 x5 d0 d1 d2 d3 d4 d5 d6 d7 d8 n0 n1 n2 n3 n4 n5 n6 n7 n8 p0 p1 p2 p3 p4 p5 p6 p7 p8 sc fo pe) l p
  rw [hv] at e5
  clear hv

  clear hdp hd ho ht3
  generalize actOf v (rv (w.heap.size + 1) N G Pr x0 x1 x2 x3 x4 x5 d0 d1 d2 d3 d4 d5 d6 d7 d8 n0 n1 n2 n3 n4 n5 n6 n7 n8 p0 p1 p2 p3 p4 p5 p6 p7 p8 sc fo pe) l p = a at *
  obtain ⟨odst, oop, oty, opos, oaft, og⟩ := o
  obtain rfl : odst = some 109 := ht1
  obtain rfl : oop = .fieldAddr 33 (.tmp 5) 4 := ht2
  have hK1 := hK W hS (Below.refl _ _)
  clear hK
  unfold Oper.wp execOp
  go_simp
  exact hK1
set_option maxHeartbeats 1000000 in
theorem op110 {w wr : World} {A : Nat → Value} {ec : List Value} {N G Pr x0 x1 x2 x3 x4 x5 d0 d1 d2 d3 d4 d5 d6 d7 d8 p0 p1 p2 p3 p4 p5 p6 p7 p8 : Int} {n0 n1 n2 n3 n4 n5 n6 n7 n8 : Nat} {sc fo pe : Bool} (v : Nat → Value) (l : Array Bool) (p : Nat) (W : World) (Q : Exit → Act → World → Prop) (K : Act → World → Prop) (o : Oper) (ho : opsR[44]? = some o) (hd : ∀ e ∈ o.after, Region.binds .any e = true → l.getD e.on false = true)
    (hS : EvS w wr A ec N G Pr x0 x1 x2 x3 x4 x5 d0 d1 d2 d3 d4 d5 d6 d7 d8 p0 p1 p2 p3 p4 p5 p6 p7 p8 sc fo pe W) (hK : ∀ W', EvS w wr A ec N G Pr x0 x1 x2 x3 x4 x5 d0 d1 d2 d3 d4 d5 d6 d7 d8 p0 p1 p2 p3 p4 p5 p6 p7 p8 sc fo pe W' → Below W.heap.size W W' → K ((actOf v (rv (w.heap.size + 1) N G Pr x0 x1 x2 x3 x4 x5 d0 d1 d2 d3 d4 d5 d6 d7 d8 n0 n1 n2 n3 n4 n5 n6 n7 n8 p0 p1 p2 p3 p4 p5 p6 p7 p8 sc fo pe) l p).put (some 110) (.pointer (some ⟨w.heap.size + 1, 17, none⟩))) W') : o.wp Ybad.prog (actOf v (rv (w.heap.size + 1) N G Pr x0 x1 x2 x3 x4 x5 d0 d1 d2 d3 d4 d5 d6 d7 d8 n0 n1 n2 n3 n4 n5 n6 n7 n8 p0 p1 p2 p3 p4 p5 p6 p7 p8 sc fo pe) l p) W K Q := by
  obtain ⟨ht1, ht2, ht3⟩ := tab_spec (i := 44) rfl rfl ho
  have hdp := dep_chk ht3 hd
  have h109 : (actOf v (rv (w.heap.size + 1) N G Pr x0 x1 x2 x3 x4 x5 d0 d1 d2 d3 d4 d5 d6 d7 d8 n0 n1 n2 n3 n4 n5 n6 n7 n8 p0 p1 p2 p3 p4 p5 p6 p7 p8 sc fo pe) l p).tmps[109]? = some (.pointer (some ⟨w.heap.size + 1, 12, none⟩)) := actOf_dep' v _ l p 109 _ (by omega) (by omega) (hdp 43 (by simp)) rfl
  clear hdp hd ho ht3
  generalize actOf v (rv (w.heap.size + 1) N G Pr x0 x1 x2 x3 x4 x5 d0 d1 d2 d3 d4 d5 d6 d7 d8 n0 n1 n2 n3 n4 n5 n6 n7 n8 p0 p1 p2 p3 p4 p5 p6 p7 p8 sc fo pe) l p = a at *
  obtain ⟨odst, oop, oty, opos, oaft, og⟩ := o
  obtain rfl : odst = some 110 := ht1
  obtain rfl : oop = .indexAddr 31 (.tmp 109) (.const (.int .i64 5)) := ht2
  have hK1 := hK W hS (Below.refl _ _)
  clear hK
  unfold Oper.wp execOp
  go_simp
  exact hK1
set_option maxHeartbeats 1000000 in
theorem op111 {w wr : World} {A : Nat → Value} {ec : List Value} {N G Pr x0 x1 x2 x3 x4 x5 d0 d1 d2 d3 d4 d5 d6 d7 d8 p0 p1 p2 p3 p4 p5 p6 p7 p8 : Int} {n0 n1 n2 n3 n4 n5 n6 n7 n8 : Nat} {sc fo pe : Bool} (v : Nat → Value) (l : Array Bool) (p : Nat) (W : World) (Q : Exit → Act → World → Prop) (K : Act → World → Prop) (o : Oper) (ho : opsR[45]? = some o) (hd : ∀ e ∈ o.after, Region.binds .any e = true → l.getD e.on false = true)
    (hS : EvS w wr A ec N G Pr x0 x1 x2 x3 x4 x5 d0 d1 d2 d3 d4 d5 d6 d7 d8 p0 p1 p2 p3 p4 p5 p6 p7 p8 sc fo pe W) (hK : ∀ W', EvS w wr A ec N G Pr x0 x1 x2 x3 x4 x5 d0 d1 d2 d3 d4 d5 d6 d7 d8 p0 p1 p2 p3 p4 p5 p6 p7 p8 sc fo pe W' → Below W.heap.size W W' → K ((actOf v (rv (w.heap.size + 1) N G Pr x0 x1 x2 x3 x4 x5 d0 d1 d2 d3 d4 d5 d6 d7 d8 n0 n1 n2 n3 n4 n5 n6 n7 n8 p0 p1 p2 p3 p4 p5 p6 p7 p8 sc fo pe) l p).put (some 111) (.int .u8 p5)) W') : o.wp Ybad.prog (actOf v (rv (w.heap.size + 1) N G Pr x0 x1 x2 x3 x4 x5 d0 d1 d2 d3 d4 d5 d6 d7 d8 n0 n1 n2 n3 n4 n5 n6 n7 n8 p0 p1 p2 p3 p4 p5 p6 p7 p8 sc fo pe) l p) W K Q := by
  obtain ⟨ht1, ht2, ht3⟩ := tab_spec (i := 45) rfl rfl ho
  have hdp := dep_chk ht3 hd
  have h110 : (actOf v (rv (w.heap.size + 1) N G Pr x0 x1 x2 x3 x4 x5 d0 d1 d2 d3 d4 d5 d6 d7 d8 n0 n1 n2 n3 n4 n5 n6 n7 n8 p0 p1 p2 p3 p4 p5 p6 p7 p8 sc fo pe) l p).tmps[110]? = some (.pointer (some ⟨w.heap.size + 1, 17, none⟩)) := actOf_dep' v _ l p 110 _ (by omega) (by omega) (hdp 44 (by simp)) rfl
  clear hdp hd ho ht3
  generalize actOf v (rv (w.heap.size + 1) N G Pr x0 x1 x2 x3 x4 x5 d0 d1 d2 d3 d4 d5 d6 d7 d8 n0 n1 n2 n3 n4 n5 n6 n7 n8 p0 p1 p2 p3 p4 p5 p6 p7 p8 sc fo pe) l p = a at *
  obtain ⟨odst, oop, oty, opos, oaft, og⟩ := o
  obtain rfl : odst = some 111 := ht1
  obtain rfl : oop = .load 5 (.tmp 110) := ht2
  have hK1 := hK W hS (Below.refl _ _)
  have hc : W.cell? ⟨w.heap.size + 1, 17, none⟩ = some (.int .u8 p5) := hS.2.2.2.2.2.2.2.2.2.2.2.2.2.2.2.2.2.1
  clear hK
  unfold Oper.wp execOp
  go_simp
  exact hK1
set_option maxHeartbeats 1000000 in
theorem op112 {w wr : World} {A : Nat → Value} {ec : List Value} {N G Pr x0 x1 x2 x3 x4 x5 d0 d1 d2 d3 d4 d5 d6 d7 d8 p0 p1 p2 p3 p4 p5 p6 p7 p8 : Int} {n0 n1 n2 n3 n4 n5 n6 n7 n8 : Nat} {sc fo pe : Bool} (v : Nat → Value) (l : Array Bool) (p : Nat) (W : World) (Q : Exit → Act → World → Prop) (K : Act → World → Prop) (o : Oper) (ho : opsR[46]? = some o) (hd : ∀ e ∈ o.after, Region.binds .any e = true → l.getD e.on false = true) (hn : p5 % 20 = ((n5 : Nat) : Int)) (ha : 0 ≤ p5) (hb : p5 ≤ 255)
    (hS : EvS w wr A ec N G Pr x0 x1 x2 x3 x4 x5 d0 d1 d2 d3 d4 d5 d6 d7 d8 p0 p1 p2 p3 p4 p5 p6 p7 p8 sc fo pe W) (hK : ∀ W', EvS w wr A ec N G Pr x0 x1 x2 x3 x4 x5 d0 d1 d2 d3 d4 d5 d6 d7 d8 p0 p1 p2 p3 p4 p5 p6 p7 p8 sc fo pe W' → Below W.heap.size W W' → K ((actOf v (rv (w.heap.size + 1) N G Pr x0 x1 x2 x3 x4 x5 d0 d1 d2 d3 d4 d5 d6 d7 d8 n0 n1 n2 n3 n4 n5 n6 n7 n8 p0 p1 p2 p3 p4 p5 p6 p7 p8 sc fo pe) l p).put (some 112) (.agg #[.int .u64 d5, .int .u8 ((n5 : Nat) : Int)])) W') : o.wp Ybad.prog (actOf v (rv (w.heap.size + 1) N G Pr x0 x1 x2 x3 x4 x5 d0 d1 d2 d3 d4 d5 d6 d7 d8 n0 n1 n2 n3 n4 n5 n6 n7 n8 p0 p1 p2 p3 p4 p5 p6 p7 p8 sc fo pe) l p) W K Q := by
  obtain ⟨ht1, ht2, ht3⟩ := tab_spec (i := 46) rfl rfl ho
  have hdp := dep_chk ht3 hd
  have h108 : (actOf v (rv (w.heap.size + 1) N G Pr x0 x1 x2 x3 x4 x5 d0 d1 d2 d3 d4 d5 d6 d7 d8 n0 n1 n2 n3 n4 n5 n6 n7 n8 p0 p1 p2 p3 p4 p5 p6 p7 p8 sc fo pe) l p).tmps[108]? = some (.int .u64 d5) := actOf_dep' v _ l p 108 _ (by omega) (by omega) (hdp 42 (by simp)) rfl
  have h111 : (actOf v (rv (w.heap.size + 1) N G Pr x0 x1 x2 x3 x4 x5 d0 d1 d2 d3 d4 d5 d6 d7 d8 n0 n1 n2 n3 n4 n5 n6 n7 n8 p0 p1 p2 p3 p4 p5 p6 p7 p8 sc fo pe) l p).tmps[111]? = some (.int .u8 p5) := actOf_dep' v _ l p 111 _ (by omega) (by omega) (hdp 45 (by simp)) rfl
  clear hdp hd ho ht3
  generalize actOf v (rv (w.heap.size + 1) N G Pr x0 x1 x2 x3 x4 x5 d0 d1 d2 d3 d4 d5 d6 d7 d8 n0 n1 n2 n3 n4 n5 n6 n7 n8 p0 p1 p2 p3 p4 p5 p6 p7 p8 sc fo pe) l p = a at *
  obtain ⟨odst, oop, oty, opos, oaft, og⟩ := o
  obtain rfl : odst = some 112 := ht1
  obtain rfl : oop = .call { callee := .value (.func 4), args := #[.tmp 108, .tmp 111], argTypes := #[29, 5] } := ht2
  have HC : Hid (p5 % 20 = ((n5 : Nat) : Int) ∧ 0 ≤ p5 ∧ p5 ≤ 255) := ⟨hn, ha, hb⟩
  clear hn ha hb
  unfold Oper.wp execOp
  go_simp
  refine (num_below d5 p5 n5 HC.out.1 HC.out.2.1 HC.out.2.2 W).mono ?_
  rintro en W' ⟨rfl, hu⟩
  exact hK W' (EvS.up hS hu) hu
set_option maxHeartbeats 1000000 in
theorem op113 {w wr : World} {A : Nat → Value} {ec : List Value} {N G Pr x0 x1 x2 x3 x4 x5 d0 d1 d2 d3 d4 d5 d6 d7 d8 p0 p1 p2 p3 p4 p5 p6 p7 p8 : Int} {n0 n1 n2 n3 n4 n5 n6 n7 n8 : Nat} {sc fo pe : Bool} (v : Nat → Value) (hv : v 5 = .pointer (some ⟨w.heap.size + 1, 0, none⟩)) (l : Array Bool) (p : Nat) (W : World) (Q : Exit → Act → World → Prop) (K : Act → World → Prop) (o : Oper) (ho : opsR[47]? = some o) (hd : ∀ e ∈ o.after, Region.binds .any e = true → l.getD e.on false = true)
    (hS : EvS w wr A ec N G Pr x0 x1 x2 x3 x4 x5 d0 d1 d2 d3 d4 d5 d6 d7 d8 p0 p1 p2 p3 p4 p5 p6 p7 p8 sc fo pe W) (hK : ∀ W', EvS w wr A ec N G Pr x0 x1 x2 x3 x4 x5 d0 d1 d2 d3 d4 d5 d6 d7 d8 p0 p1 p2 p3 p4 p5 p6 p7 p8 sc fo pe W' → Below W.heap.size W W' → K ((actOf v (rv (w.heap.size + 1) N G Pr x0 x1 x2 x3 x4 x5 d0 d1 d2 d3 d4 d5 d6 d7 d8 n0 n1 n2 n3 n4 n5 n6 n7 n8 p0 p1 p2 p3 p4 p5 p6 p7 p8 sc fo pe) l p).put (some 113) (.pointer (some ⟨w.heap.size + 1, 3, none⟩))) W') : o.wp Ybad.prog (actOf v (rv (w.heap.size + 1) N G Pr x0 x1 x2 x3 x4 x5 d0 d1 d2 d3 d4 d5 d6 d7 d8 n0 n1 n2 n3 n4 n5 n6 n7 n8 p0 p1 p2 p3 p4 p5 p6 p7 p8 sc fo pe) l p) W K Q := by
  obtain ⟨ht1, ht2, ht3⟩ := tab_spec (i := 47) rfl rfl ho
  have hdp := dep_chk ht3 hd
  have e5 := actOf_five' v (rv (w.heap.size + 1) N G Pr x0 x1 x2 x3 x4 x5 d0 d1 d2 d3 d4 d5 d6 d7 d8 n0 n1 n2 n3 n4 n5 n6 n7 n8 p0 p1 p2 p3 p4 p5 p6 p7 p8 sc fo pe) l p
  rw [hv] at e5
  clear hv

  clear hdp hd ho ht3
  generalize actOf v (rv (w.heap.size + 1) N G Pr x0 x1 x2 x3 x4 x5 d0 d1 d2 d3 d4 d5 d6 d7 d8 n0 n1 n2 n3 n4 n5 n6 n7 n8 p0 p1 p2 p3 p4 p5 p6 p7 p8 sc fo pe) l p = a at *
  obtain ⟨odst, oop, oty, opos, oaft, og⟩ := o
  obtain rfl : odst = some 113 := ht1
  obtain rfl : oop = .fieldAddr 33 (.tmp 5) 3 := ht2
  have hK1 := hK W hS (Below.refl _ _)
  clear hK
  unfold Oper.wp execOp
  go_simp
  exact hK1
set_option maxHeartbeats 1000000 in
theorem op114 {w wr : World} {A : Nat → Value} {ec : List Value} {N G Pr x0 x1 x2 x3 x4 x5 d0 d1 d2 d3 d4 d5 d6 d7 d8 p0 p1 p2 p3 p4 p5 p6 p7 p8 : Int} {n0 n1 n2 n3 n4 n5 n6 n7 n8 : Nat} {sc fo pe : Bool} (v : Nat → Value) (l : Array Bool) (p : Nat) (W : World) (Q : Exit → Act → World → Prop) (K : Act → World → Prop) (o : Oper) (ho : opsR[48]? = some o) (hd : ∀ e ∈ o.after, Region.binds .any e = true → l.getD e.on false = true)
    (hS : EvS w wr A ec N G Pr x0 x1 x2 x3 x4 x5 d0 d1 d2 d3 d4 d5 d6 d7 d8 p0 p1 p2 p3 p4 p5 p6 p7 p8 sc fo pe W) (hK : ∀ W', EvS w wr A ec N G Pr x0 x1 x2 x3 x4 x5 d0 d1 d2 d3 d4 d5 d6 d7 d8 p0 p1 p2 p3 p4 p5 p6 p7 p8 sc fo pe W' → Below W.heap.size W W' → K ((actOf v (rv (w.heap.size + 1) N G Pr x0 x1 x2 x3 x4 x5 d0 d1 d2 d3 d4 d5 d6 d7 d8 n0 n1 n2 n3 n4 n5 n6 n7 n8 p0 p1 p2 p3 p4 p5 p6 p7 p8 sc fo pe) l p).put (some 114) (.pointer (some ⟨w.heap.size + 1, 9, none⟩))) W') : o.wp Ybad.prog (actOf v (rv (w.heap.size + 1) N G Pr x0 x1 x2 x3 x4 x5 d0 d1 d2 d3 d4 d5 d6 d7 d8 n0 n1 n2 n3 n4 n5 n6 n7 n8 p0 p1 p2 p3 p4 p5 p6 p7 p8 sc fo pe) l p) W K Q := by
  obtain ⟨ht1, ht2, ht3⟩ := tab_spec (i := 48) rfl rfl ho
  have hdp := dep_chk ht3 hd
  have h113 : (actOf v (rv (w.heap.size + 1) N G Pr x0 x1 x2 x3 x4 x5 d0 d1 d2 d3 d4 d5 d6 d7 d8 n0 n1 n2 n3 n4 n5 n6 n7 n8 p0 p1 p2 p3 p4 p5 p6 p7 p8 sc fo pe) l p).tmps[113]? = some (.pointer (some ⟨w.heap.size + 1, 3, none⟩)) := actOf_dep' v _ l p 113 _ (by omega) (by omega) (hdp 47 (by simp)) rfl
  clear hdp hd ho ht3
  generalize actOf v (rv (w.heap.size + 1) N G Pr x0 x1 x2 x3 x4 x5 d0 d1 d2 d3 d4 d5 d6 d7 d8 n0 n1 n2 n3 n4 n5 n6 n7 n8 p0 p1 p2 p3 p4 p5 p6 p7 p8 sc fo pe) l p = a at *
  obtain ⟨odst, oop, oty, opos, oaft, og⟩ := o
  obtain rfl : odst = some 114 := ht1
  obtain rfl : oop = .indexAddr 30 (.tmp 113) (.const (.int .i64 6)) := ht2
  have hK1 := hK W hS (Below.refl _ _)
  clear hK
  unfold Oper.wp execOp
  go_simp
  exact hK1
set_option maxHeartbeats 1000000 in
theorem op115 {w wr : World} {A : Nat → Value} {ec : List Value} {N G Pr x0 x1 x2 x3 x4 x5 d0 d1 d2 d3 d4 d5 d6 d7 d8 p0 p1 p2 p3 p4 p5 p6 p7 p8 : Int} {n0 n1 n2 n3 n4 n5 n6 n7 n8 : Nat} {sc fo pe : Bool} (v : Nat → Value) (l : Array Bool) (p : Nat) (W : World) (Q : Exit → Act → World → Prop) (K : Act → World → Prop) (o : Oper) (ho : opsR[49]? = some o) (hd : ∀ e ∈ o.after, Region.binds .any e = true → l.getD e.on false = true)
    (hS : EvS w wr A ec N G Pr x0 x1 x2 x3 x4 x5 d0 d1 d2 d3 d4 d5 d6 d7 d8 p0 p1 p2 p3 p4 p5 p6 p7 p8 sc fo pe W) (hK : ∀ W', EvS w wr A ec N G Pr x0 x1 x2 x3 x4 x5 d0 d1 d2 d3 d4 d5 d6 d7 d8 p0 p1 p2 p3 p4 p5 p6 p7 p8 sc fo pe W' → Below W.heap.size W W' → K ((actOf v (rv (w.heap.size + 1) N G Pr x0 x1 x2 x3 x4 x5 d0 d1 d2 d3 d4 d5 d6 d7 d8 n0 n1 n2 n3 n4 n5 n6 n7 n8 p0 p1 p2 p3 p4 p5 p6 p7 p8 sc fo pe) l p).put (some 115) (.int .u64 d6)) W') : o.wp Ybad.prog (actOf v (rv (w.heap.size + 1) N G Pr x0 x1 x2 x3 x4 x5 d0 d1 d2 d3 d4 d5 d6 d7 d8 n0 n1 n2 n3 n4 n5 n6 n7 n8 p0 p1 p2 p3 p4 p5 p6 p7 p8 sc fo pe) l p) W K Q := by
  obtain ⟨ht1, ht2, ht3⟩ := tab_spec (i := 49) rfl rfl ho
  have hdp := dep_chk ht3 hd
  have h114 : (actOf v (rv (w.heap.size + 1) N G Pr x0 x1 x2 x3 x4 x5 d0 d1 d2 d3 d4 d5 d6 d7 d8 n0 n1 n2 n3 n4 n5 n6 n7 n8 p0 p1 p2 p3 p4 p5 p6 p7 p8 sc fo pe) l p).tmps[114]? = some (.pointer (some ⟨w.heap.size + 1, 9, none⟩)) := actOf_dep' v _ l p 114 _ (by omega) (by omega) (hdp 48 (by simp)) rfl
  clear hdp hd ho ht3
  generalize actOf v (rv (w.heap.size + 1) N G Pr x0 x1 x2 x3 x4 x5 d0 d1 d2 d3 d4 d5 d6 d7 d8 n0 n1 n2 n3 n4 n5 n6 n7 n8 p0 p1 p2 p3 p4 p5 p6 p7 p8 sc fo pe) l p = a at *
  obtain ⟨odst, oop, oty, opos, oaft, og⟩ := o
  obtain rfl : odst = some 115 := ht1
  obtain rfl : oop = .load 29 (.tmp 114) := ht2
  have hK1 := hK W hS (Below.refl _ _)
  have hc : W.cell? ⟨w.heap.size + 1, 9, none⟩ = some (.int .u64 d6) := hS.2.2.2.2.2.2.2.2.2.1
  clear hK
  unfold Oper.wp execOp
  go_simp
  exact hK1
set_option maxHeartbeats 1000000 in
theorem op116 {w wr : World} {A : Nat → Value} {ec : List Value} {N G Pr x0 x1 x2 x3 x4 x5 d0 d1 d2 d3 d4 d5 d6 d7 d8 p0 p1 p2 p3 p4 p5 p6 p7 p8 : Int} {n0 n1 n2 n3 n4 n5 n6 n7 n8 : Nat} {sc fo pe : Bool} (v : Nat → Value) (hv : v 5 = .pointer (some ⟨w.heap.size + 1, 0, none⟩)) (l : Array Bool) (p : Nat) (W : World) (Q : Exit → Act → World → Prop) (K : Act → World → Prop) (o : Oper) (ho : opsR[50]? = some o) (hd : ∀ e ∈ o.after, Region.binds .any e = true → l.getD e.on false = true)
    (hS : EvS w wr A ec N G Pr x0 x1 x2 x3 x4 x5 d0 d1 d2 d3 d4 d5 d6 d7 d8 p0 p1 p2 p3 p4 p5 p6 p7 p8 sc fo pe W) (hK : ∀ W', EvS w wr A ec N G Pr x0 x1 x2 x3 x4 x5 d0 d1 d2 d3 d4 d5 d6 d7 d8 p0 p1 p2 p3 p4 p5 p6 p7 p8 sc fo pe W' → Below W.heap.size W W' → K ((actOf v (rv (w.heap.size + 1) N G Pr x0 x1 x2 x3 x4 x5 d0 d1 d2 d3 d4 d5 d6 d7 d8 n0 n1 n2 n3 n4 n5 n6 n7 n8 p0 p1 p2 p3 p4 p5 p6 p7 p8 sc fo pe) l p).put (some 116) (.pointer (some ⟨w.heap.size + 1, 12, none⟩))) W') : o.wp Ybad.prog (actOf v (rv (w.heap.size + 1) N G Pr x0 x1 x2 x3 x4 x5 d0 d1 d2 d3 d4 d5 d6 d7 d8 n0 n1 n2 n3 n4 n5 n6 n7 n8 p0 p1 p2 p3 p4 p5 p6 p7 p8 sc fo pe) l p) W K Q := by
  obtain ⟨ht1, ht2, ht3⟩ := tab_spec (i := 50) rfl rfl ho
  have hdp := dep_chk ht3 hd
  have e5 := actOf_five' v (rv (w.heap.size + 1) N G Pr x0 x1 x2 x3 x4 x5 d0 d1 d2 d3 d4 d5 d6 d7 d8 n0 n1 n2 n3 n4 n5 n6 n7 n8 p0 p1 p2 p3 p4 p5 p6 p7 p8 sc fo pe) l p
  rw [hv] at e5
  clear hv

  clear hdp hd ho ht3
  generalize actOf v (rv (w.heap.size + 1) N G Pr x0 x1 x2 x3 x4 x5 d0 d1 d2 d3 d4 d5 d6 d7 d8 n0 n1 n2 n3 n4 n5 n6 n7 n8 p0 p1 p2 p3 p4 p5 p6 p7 p8 sc fo pe) l p = a at *
  obtain ⟨odst, oop, oty, opos, oaft, og⟩ := o
  obtain rfl : odst = some 116 := ht1
  obtain rfl : oop = .fieldAddr 33 (.tmp 5) 4 := ht2
  have hK1 := hK W hS (Below.refl _ _)
  clear hK
  unfold Oper.wp execOp
  go_simp
  exact hK1
set_option maxHeartbeats 1000000 in
theorem op117 {w wr : World} {A : Nat → Value} {ec : List Value} {N G Pr x0 x1 x2 x3 x4 x5 d0 d1 d2 d3 d4 d5 d6 d7 d8 p0 p1 p2 p3 p4 p5 p6 p7 p8 : Int} {n0 n1 n2 n3 n4 n5 n6 n7 n8 : Nat} {sc fo pe : Bool} (v : Nat → Value) (l : Array Bool) (p : Nat) (W : World) (Q : Exit → Act → World → Prop) (K : Act → World → Prop) (o : Oper) (ho : opsR[51]? = some o) (hd : ∀ e ∈ o.after, Region.binds .any e = true → l.getD e.on false = true)
    (hS : EvS w wr A ec N G Pr x0 x1 x2 x3 x4 x5 d0 d1 d2 d3 d4 d5 d6 d7 d8 p0 p1 p2 p3 p4 p5 p6 p7 p8 sc fo pe W) (hK : ∀ W', EvS w wr A ec N G Pr x0 x1 x2 x3 x4 x5 d0 d1 d2 d3 d4 d5 d6 d7 d8 p0 p1 p2 p3 p4 p5 p6 p7 p8 sc fo pe W' → Below W.heap.size W W' → K ((actOf v (rv (w.heap.size + 1) N G Pr x0 x1 x2 x3 x4 x5 d0 d1 d2 d3 d4 d5 d6 d7 d8 n0 n1 n2 n3 n4 n5 n6 n7 n8 p0 p1 p2 p3 p4 p5 p6 p7 p8 sc fo pe) l p).put (some 117) (.pointer (some ⟨w.heap.size + 1, 18, none⟩))) W') : o.wp Ybad.prog (actOf v (rv (w.heap.size + 1) N G Pr x0 x1 x2 x3 x4 x5 d0 d1 d2 d3 d4 d5 d6 d7 d8 n0 n1 n2 n3 n4 n5 n6 n7 n8 p0 p1 p2 p3 p4 p5 p6 p7 p8 sc fo pe) l p) W K Q := by
  obtain ⟨ht1, ht2, ht3⟩ := tab_spec (i := 51) rfl rfl ho
  have hdp := dep_chk ht3 hd
  have h116 : (actOf v (rv (w.heap.size + 1) N G Pr x0 x1 x2 x3 x4 x5 d0 d1 d2 d3 d4 d5 d6 d7 d8 n0 n1 n2 n3 n4 n5 n6 n7 n8 p0 p1 p2 p3 p4 p5 p6 p7 p8 sc fo pe) l p).tmps[116]? = some (.pointer (some ⟨w.heap.size + 1, 12, none⟩)) := actOf_dep' v _ l p 116 _ (by omega) (by omega) (hdp 50 (by simp)) rfl
  clear hdp hd ho ht3
  generalize actOf v (rv (w.heap.size + 1) N G Pr x0 x1 x2 x3 x4 x5 d0 d1 d2 d3 d4 d5 d6 d7 d8 n0 n1 n2 n3 n4 n5 n6 n7 n8 p0 p1 p2 p3 p4 p5 p6 p7 p8 sc fo pe) l p = a at *
  obtain ⟨odst, oop, oty, opos, oaft, og⟩ := o
  obtain rfl : odst = some 117 := ht1
  obtain rfl : oop = .indexAddr 31 (.tmp 116) (.const (.int .i64 6)) := ht2
  have hK1 := hK W hS (Below.refl _ _)
  clear hK
  unfold Oper.wp execOp
  go_simp
  exact hK1
set_option maxHeartbeats 1000000 in
theorem op118 {w wr : World} {A : Nat → Value} {ec : List Value} {N G Pr x0 x1 x2 x3 x4 x5 d0 d1 d2 d3 d4 d5 d6 d7 d8 p0 p1 p2 p3 p4 p5 p6 p7 p8 : Int} {n0 n1 n2 n3 n4 n5 n6 n7 n8 : Nat} {sc fo pe : Bool} (v : Nat → Value) (l : Array Bool) (p : Nat) (W : World) (Q : Exit → Act → World → Prop) (K : Act → World → Prop) (o : Oper) (ho : opsR[52]? = some o) (hd : ∀ e ∈ o.after, Region.binds .any e = true → l.getD e.on false = true)
    (hS : EvS w wr A ec N G Pr x0 x1 x2 x3 x4 x5 d0 d1 d2 d3 d4 d5 d6 d7 d8 p0 p1 p2 p3 p4 p5 p6 p7 p8 sc fo pe W) (hK : ∀ W', EvS w wr A ec N G Pr x0 x1 x2 x3 x4 x5 d0 d1 d2 d3 d4 d5 d6 d7 d8 p0 p1 p2 p3 p4 p5 p6 p7 p8 sc fo pe W' → Below W.heap.size W W' → K ((actOf v (rv (w.heap.size + 1) N G Pr x0 x1 x2 x3 x4 x5 d0 d1 d2 d3 d4 d5 d6 d7 d8 n0 n1 n2 n3 n4 n5 n6 n7 n8 p0 p1 p2 p3 p4 p5 p6 p7 p8 sc fo pe) l p).put (some 118) (.int .u8 p6)) W') : o.wp Ybad.prog (actOf v (rv (w.heap.size + 1) N G Pr x0 x1 x2 x3 x4 x5 d0 d1 d2 d3 d4 d5 d6 d7 d8 n0 n1 n2 n3 n4 n5 n6 n7 n8 p0 p1 p2 p3 p4 p5 p6 p7 p8 sc fo pe) l p) W K Q := by
  obtain ⟨ht1, ht2, ht3⟩ := tab_spec (i := 52) rfl rfl ho
  have hdp := dep_chk ht3 hd
  have h117 : (actOf v (rv (w.heap.size + 1) N G Pr x0 x1 x2 x3 x4 x5 d0 d1 d2 d3 d4 d5 d6 d7 d8 n0 n1 n2 n3 n4 n5 n6 n7 n8 p0 p1 p2 p3 p4 p5 p6 p7 p8 sc fo pe) l p).tmps[117]? = some (.pointer (some ⟨w.heap.size + 1, 18, none⟩)) := actOf_dep' v _ l p 117 _ (by omega) (by omega) (hdp 51 (by simp)) rfl
  clear hdp hd ho ht3
  generalize actOf v (rv (w.heap.size + 1) N G Pr x0 x1 x2 x3 x4 x5 d0 d1 d2 d3 d4 d5 d6 d7 d8 n0 n1 n2 n3 n4 n5 n6 n7 n8 p0 p1 p2 p3 p4 p5 p6 p7 p8 sc fo pe) l p = a at *
  obtain ⟨odst, oop, oty, opos, oaft, og⟩ := o
  obtain rfl : odst = some 118 := ht1
  obtain rfl : oop = .load 5 (.tmp 117) := ht2
  have hK1 := hK W hS (Below.refl _ _)
  have hc : W.cell? ⟨w.heap.size + 1, 18, none⟩ = some (.int .u8 p6) := hS.2.2.2.2.2.2.2.2.2.2.2.2.2.2.2.2.2.2.1
  clear hK
  unfold Oper.wp execOp
  go_simp
  exact hK1
set_option maxHeartbeats 1000000 in
theorem op119 {w wr : World} {A : Nat → Value} {ec : List Value} {N G Pr x0 x1 x2 x3 x4 x5 d0 d1 d2 d3 d4 d5 d6 d7 d8 p0 p1 p2 p3 p4 p5 p6 p7 p8 : Int} {n0 n1 n2 n3 n4 n5 n6 n7 n8 : Nat} {sc fo pe : Bool} (v : Nat → Value) (l : Array Bool) (p : Nat) (W : World) (Q : Exit → Act → World → Prop) (K : Act → World → Prop) (o : Oper) (ho : opsR[53]? = some o) (hd : ∀ e ∈ o.after, Region.binds .any e = true → l.getD e.on false = true) (hn : p6 % 20 = ((n6 : Nat) : Int)) (ha : 0 ≤ p6) (hb : p6 ≤ 255)
    (hS : EvS w wr A ec N G Pr x0 x1 x2 x3 x4 x5 d0 d1 d2 d3 d4 d5 d6 d7 d8 p0 p1 p2 p3 p4 p5 p6 p7 p8 sc fo pe W) (hK : ∀ W', EvS w wr A ec N G Pr x0 x1 x2 x3 x4 x5 d0 d1 d2 d3 d4 d5 d6 d7 d8 p0 p1 p2 p3 p4 p5 p6 p7 p8 sc fo pe W' → Below W.heap.size W W' → K ((actOf v (rv (w.heap.size + 1) N G Pr x0 x1 x2 x3 x4 x5 d0 d1 d2 d3 d4 d5 d6 d7 d8 n0 n1 n2 n3 n4 n5 n6 n7 n8 p0 p1 p2 p3 p4 p5 p6 p7 p8 sc fo pe) l p).put (some 119) (.agg #[.int .u64 d6, .int .u8 ((n6 : Nat) : Int)])) W') : o.wp Ybad.prog (actOf v (rv (w.heap.size + 1) N G Pr x0 x1 x2 x3 x4 x5 d0 d1 d2 d3 d4 d5 d6 d7 d8 n0 n1 n2 n3 n4 n5 n6 n7 n8 p0 p1 p2 p3 p4 p5 p6 p7 p8 sc fo pe) l p) W K Q := by
  obtain ⟨ht1, ht2, ht3⟩ := tab_spec (i := 53) rfl rfl ho
  have hdp := dep_chk ht3 hd
  have h115 : (actOf v (rv (w.heap.size + 1) N G Pr x0 x1 x2 x3 x4 x5 d0 d1 d2 d3 d4 d5 d6 d7 d8 n0 n1 n2 n3 n4 n5 n6 n7 n8 p0 p1 p2 p3 p4 p5 p6 p7 p8 sc fo pe) l p).tmps[115]? = some (.int .u64 d6) := actOf_dep' v _ l p 115 _ (by omega) (by omega) (hdp 49 (by simp)) rfl
  have h118 : (actOf v (rv (w.heap.size + 1) N G Pr x0 x1 x2 x3 x4 x5 d0 d1 d2 d3 d4 d5 d6 d7 d8 n0 n1 n2 n3 n4 n5 n6 n7 n8 p0 p1 p2 p3 p4 p5 p6 p7 p8 sc fo pe) l p).tmps[118]? = some (.int .u8 p6) := actOf_dep' v _ l p 118 _ (by omega) (by omega) (hdp 52 (by simp)) rfl
  clear hdp hd ho ht3
  generalize actOf v (rv (w.heap.size + 1) N G Pr x0 x1 x2 x3 x4 x5 d0 d1 d2 d3 d4 d5 d6 d7 d8 n0 n1 n2 n3 n4 n5 n6 n7 n8 p0 p1 p2 p3 p4 p5 p6 p7 p8 sc fo pe) l p = a at *
  obtain ⟨odst, oop, oty, opos, oaft, og⟩ := o
  obtain rfl : odst = some 119 := ht1
  obtain rfl : oop = .call { callee := .value (.func 4), args := #[.tmp 115, .tmp 118], argTypes := #[29, 5] } := ht2
  have HC : Hid (p6 % 20 = ((n6 : Nat) : Int) ∧ 0 ≤ p6 ∧ p6 ≤ 255) := ⟨hn, ha, hb⟩
  clear hn ha hb
  unfold Oper.wp execOp
  go_simp
  refine (num_below d6 p6 n6 HC.out.1 HC.out.2.1 HC.out.2.2 W).mono ?_
  rintro en W' ⟨rfl, hu⟩
  exact hK W' (EvS.up hS hu) hu
set_option maxHeartbeats 1000000 in
theorem op120 {w wr : World} {A : Nat → Value} {ec : List Value} {N G Pr x0 x1 x2 x3 x4 x5 d0 d1 d2 d3 d4 d5 d6 d7 d8 p0 p1 p2 p3 p4 p5 p6 p7 p8 : Int} {n0 n1 n2 n3 n4 n5 n6 n7 n8 : Nat} {sc fo pe : Bool} (v : Nat → Value) (hv : v 5 = .pointer (some ⟨w.heap.size + 1, 0, none⟩)) (l : Array Bool) (p : Nat) (W : World) (Q : Exit → Act → World → Prop) (K : Act → World → Prop) (o : Oper) (ho : opsR[54]? = some o) (hd : ∀ e ∈ o.after, Region.binds .any e = true → l.getD e.on false = true)
    (hS : EvS w wr A ec N G Pr x0 x1 x2 x3 x4 x5 d0 d1 d2 d3 d4 d5 d6 d7 d8 p0 p1 p2 p3 p4 p5 p6 p7 p8 sc fo pe W) (hK : ∀ W', EvS w wr A ec N G Pr x0 x1 x2 x3 x4 x5 d0 d1 d2 d3 d4 d5 d6 d7 d8 p0 p1 p2 p3 p4 p5 p6 p7 p8 sc fo pe W' → Below W.heap.size W W' → K ((actOf v (rv (w.heap.size + 1) N G Pr x0 x1 x2 x3 x4 x5 d0 d1 d2 d3 d4 d5 d6 d7 d8 n0 n1 n2 n3 n4 n5 n6 n7 n8 p0 p1 p2 p3 p4 p5 p6 p7 p8 sc fo pe) l p).put (some 120) (.pointer (some ⟨w.heap.size + 1, 3, none⟩))) W') : o.wp Ybad.prog (actOf v (rv (w.heap.size + 1) N G Pr x0 x1 x2 x3 x4 x5 d0 d1 d2 d3 d4 d5 d6 d7 d8 n0 n1 n2 n3 n4 n5 n6 n7 n8 p0 p1 p2 p3 p4 p5 p6 p7 p8 sc fo pe) l p) W K Q := by
  obtain ⟨ht1, ht2, ht3⟩ := tab_spec (i := 54) rfl rfl ho
  have hdp := dep_chk ht3 hd
  have e5 := actOf_five' v (rv (w.heap.size + 1) N G Pr x0 x1 x2 x3 x4 x5 d0 d1 d2 d3 d4 d5 d6 d7 d8 n0 n1 n2 n3 n4 n5 n6 n7 n8 p0 p1 p2 p3 p4 p5 p6 p7 p8 sc fo pe) l p
  rw [hv] at e5
  clear hv

  clear hdp hd ho ht3
  generalize actOf v (rv (w.heap.size + 1) N G Pr x0 x1 x2 x3 x4 x5 d0 d1 d2 d3 d4 d5 d6 d7 d8 n0 n1 n2 n3 n4 n5 n6 n7 n8 p0 p1 p2 p3 p4 p5 p6 p7 p8 sc fo pe) l p = a at *
  obtain ⟨odst, oop, oty, opos, oaft, og⟩ := o
  obtain rfl : odst = some 120 := ht1
  obtain rfl : oop = .fieldAddr 33 (.tmp 5) 3 := ht2
  have hK1 := hK W hS (Below.refl _ _)
  clear hK
  unfold Oper.wp execOp
  go_simp
  exact hK1
set_option maxHeartbeats 1000000 in
theorem op121 {w wr : World} {A : Nat → Value} {ec : List Value} {N G Pr x0 x1 x2 x3 x4 x5 d0 d1 d2 d3 d4 d5 d6 d7 d8 p0 p1 p2 p3 p4 p5 p6 p7 p8 : Int} {n0 n1 n2 n3 n4 n5 n6 n7 n8 : Nat} {sc fo pe : Bool} (v : Nat → Value) (l : Array Bool) (p : Nat) (W : World) (Q : Exit → Act → World → Prop) (K : Act → World → Prop) (o : Oper) (ho : opsR[55]? = some o) (hd : ∀ e ∈ o.after, Region.binds .any e = true → l.getD e.on false = true)
    (hS : EvS w wr A ec N G Pr x0 x1 x2 x3 x4 x5 d0 d1 d2 d3 d4 d5 d6 d7 d8 p0 p1 p2 p3 p4 p5 p6 p7 p8 sc fo pe W) (hK : ∀ W', EvS w wr A ec N G Pr x0 x1 x2 x3 x4 x5 d0 d1 d2 d3 d4 d5 d6 d7 d8 p0 p1 p2 p3 p4 p5 p6 p7 p8 sc fo pe W' → Below W.heap.size W W' → K ((actOf v (rv (w.heap.size + 1) N G Pr x0 x1 x2 x3 x4 x5 d0 d1 d2 d3 d4 d5 d6 d7 d8 n0 n1 n2 n3 n4 n5 n6 n7 n8 p0 p1 p2 p3 p4 p5 p6 p7 p8 sc fo pe) l p).put (some 121) (.pointer (some ⟨w.heap.size + 1, 10, none⟩))) W') : o.wp Ybad.prog (actOf v (rv (w.heap.size + 1) N G Pr x0 x1 x2 x3 x4 x5 d0 d1 d2 d3 d4 d5 d6 d7 d8 n0 n1 n2 n3 n4 n5 n6 n7 n8 p0 p1 p2 p3 p4 p5 p6 p7 p8 sc fo pe) l p) W K Q := by
  obtain ⟨ht1, ht2, ht3⟩ := tab_spec (i := 55) rfl rfl ho
  have hdp := dep_chk ht3 hd
  have h120 : (actOf v (rv (w.heap.size + 1) N G Pr x0 x1 x2 x3 x4 x5 d0 d1 d2 d3 d4 d5 d6 d7 d8 n0 n1 n2 n3 n4 n5 n6 n7 n8 p0 p1 p2 p3 p4 p5 p6 p7 p8 sc fo pe) l p).tmps[120]? = some (.pointer (some ⟨w.heap.size + 1, 3, none⟩)) := actOf_dep' v _ l p 120 _ (by omega) (by omega) (hdp 54 (by simp)) rfl
  clear hdp hd ho ht3
  generalize actOf v (rv (w.heap.size + 1) N G Pr x0 x1 x2 x3 x4 x5 d0 d1 d2 d3 d4 d5 d6 d7 d8 n0 n1 n2 n3 n4 n5 n6 n7 n8 p0 p1 p2 p3 p4 p5 p6 p7 p8 sc fo pe) l p = a at *
  obtain ⟨odst, oop, oty, opos, oaft, og⟩ := o
  obtain rfl : odst = some 121 := ht1
  obtain rfl : oop = .indexAddr 30 (.tmp 120) (.const (.int .i64 7)) := ht2
  have hK1 := hK W hS (Below.refl _ _)
  clear hK
  unfold Oper.wp execOp
  go_simp
  exact hK1
set_option maxHeartbeats 1000000 in
theorem op122 {w wr : World} {A : Nat → Value} {ec : List Value} {N G Pr x0 x1 x2 x3 x4 x5 d0 d1 d2 d3 d4 d5 d6 d7 d8 p0 p1 p2 p3 p4 p5 p6 p7 p8 : Int} {n0 n1 n2 n3 n4 n5 n6 n7 n8 : Nat} {sc fo pe : Bool} (v : Nat → Value) (l : Array Bool) (p : Nat) (W : World) (Q : Exit → Act → World → Prop) (K : Act → World → Prop) (o : Oper) (ho : opsR[56]? = some o) (hd : ∀ e ∈ o.after, Region.binds .any e = true → l.getD e.on false = true)
    (hS : EvS w wr A ec N G Pr x0 x1 x2 x3 x4 x5 d0 d1 d2 d3 d4 d5 d6 d7 d8 p0 p1 p2 p3 p4 p5 p6 p7 p8 sc fo pe W) (hK : ∀ W', EvS w wr A ec N G Pr x0 x1 x2 x3 x4 x5 d0 d1 d2 d3 d4 d5 d6 d7 d8 p0 p1 p2 p3 p4 p5 p6 p7 p8 sc fo pe W' → Below W.heap.size W W' → K ((actOf v (rv (w.heap.size + 1) N G Pr x0 x1 x2 x3 x4 x5 d0 d1 d2 d3 d4 d5 d6 d7 d8 n0 n1 n2 n3 n4 n5 n6 n7 n8 p0 p1 p2 p3 p4 p5 p6 p7 p8 sc fo pe) l p).put (some 122) (.int .u64 d7)) W') : o.wp Ybad.prog (actOf v (rv (w.heap.size + 1) N G Pr x0 x1 x2 x3 x4 x5 d0 d1 d2 d3 d4 d5 d6 d7 d8 n0 n1 n2 n3 n4 n5 n6 n7 n8 p0 p1 p2 p3 p4 p5 p6 p7 p8 sc fo pe) l p) W K Q := by
  obtain ⟨ht1, ht2, ht3⟩ := tab_spec (i := 56) rfl rfl ho
  have hdp := dep_chk ht3 hd
  have h121 : (actOf v (rv (w.heap.size + 1) N G Pr x0 x1 x2 x3 x4 x5 d0 d1 d2 d3 d4 d5 d6 d7 d8 n0 n1 n2 n3 n4 n5 n6 n7 n8 p0 p1 p2 p3 p4 p5 p6 p7 p8 sc fo pe) l p).tmps[121]? = some (.pointer (some ⟨w.heap.size + 1, 10, none⟩)) := actOf_dep' v _ l p 121 _ (by omega) (by omega) (hdp 55 (by simp)) rfl
  clear hdp hd ho ht3
  generalize actOf v (rv (w.heap.size + 1) N G Pr x0 x1 x2 x3 x4 x5 d0 d1 d2 d3 d4 d5 d6 d7 d8 n0 n1 n2 n3 n4 n5 n6 n7 n8 p0 p1 p2 p3 p4 p5 p6 p7 p8 sc fo pe) l p = a at *
  obtain ⟨odst, oop, oty, opos, oaft, og⟩ := o
  obtain rfl : odst = some 122 := ht1
  obtain rfl : oop = .load 29 (.tmp 121) := ht2
  have hK1 := hK W hS (Below.refl _ _)
  have hc : W.cell? ⟨w.heap.size + 1, 10, none⟩ = some (.int .u64 d7) := hS.2.2.2.2.2.2.2.2.2.2.1
  clear hK
  unfold Oper.wp execOp
  go_simp
  exact hK1
set_option maxHeartbeats 1000000 in
theorem op123 {w wr : World} {A : Nat → Value} {ec : List Value} {N G Pr x0 x1 x2 x3 x4 x5 d0 d1 d2 d3 d4 d5 d6 d7 d8 p0 p1 p2 p3 p4 p5 p6 p7 p8 : Int} {n0 n1 n2 n3 n4 n5 n6 n7 n8 : Nat} {sc fo pe : Bool} (v : Nat → Value) (hv : v 5 = .pointer (some ⟨w.heap.size + 1, 0, none⟩)) (l : Array Bool) (p : Nat) (W : World) (Q : Exit → Act → World → Prop) (K : Act → World → Prop) (o : Oper) (ho : opsR[57]? = some o) (hd : ∀ e ∈ o.after, Region.binds .any e = true → l.getD e.on false = true)
    (hS : EvS w wr A ec N G Pr x0 x1 x2 x3 x4 x5 d0 d1 d2 d3 d4 d5 d6 d7 d8 p0 p1 p2 p3 p4 p5 p6 p7 p8 sc fo pe W) (hK : ∀ W', EvS w wr A ec N G Pr x0 x1 x2 x3 x4 x5 d0 d1 d2 d3 d4 d5 d6 d7 d8 p0 p1 p2 p3 p4 p5 p6 p7 p8 sc fo pe W' → Below W.heap.size W W' → K ((actOf v (rv (w.heap.size + 1) N G Pr x0 x1 x2 x3 x4 x5 d0 d1 d2 d3 d4 d5 d6 d7 d8 n0 n1 n2 n3 n4 n5 n6 n7 n8 p0 p1 p2 p3 p4 p5 p6 p7 p8 sc fo pe) l p).put (some 123) (.pointer (some ⟨w.heap.size + 1, 12, none⟩))) W') : o.wp Ybad.prog (actOf v (rv (w.heap.size + 1) N G Pr x0 x1 x2 x3 x4 x5 d0 d1 d2 d3 d4 d5 d6 d7 d8 n0 n1 n2 n3 n4 n5 n6 n7 n8 p0 p1 p2 p3 p4 p5 p6 p7 p8 sc fo pe) l p) W K Q := by
  obtain ⟨ht1, ht2, ht3⟩ := tab_spec (i := 57) rfl rfl ho
  have hdp := dep_chk ht3 hd
  have e5 := actOf_five' v (rv (w.heap.size + 1) N G Pr x0 x1 x2 x3 x4 x5 d0 d1 d2 d3 d4 d5 d6 d7 d8 n0 n1 n2 n3 n4 n5 n6 n7 n8 p0 p1 p2 p3 p4 p5 p6 p7 p8 sc fo pe) l p
  rw [hv] at e5
  clear hv

  clear hdp hd ho ht3
  generalize actOf v (rv (w.heap.size + 1) N G Pr x0 x1 x2 x3 x4 x5 d0 d1 d2 d3 d4 d5 d6 d7 d8 n0 n1 n2 n3 n4 n5 n6 n7 n8 p0 p1 p2 p3 p4 p5 p6 p7 p8 sc fo pe) l p = a at *
  obtain ⟨odst, oop, oty, opos, oaft, og⟩ := o
  obtain rfl : odst = some 123 := ht1
  obtain rfl : oop = .fieldAddr 33 (.tmp 5) 4 := ht2
  have hK1 := hK W hS (Below.refl _ _)
  clear hK
  unfold Oper.wp execOp
  go_simp
  exact hK1
set_option maxHeartbeats 1000000 in
theorem op124 {w wr : World} {A : Nat → Value} {ec : List Value} {N G Pr x0 x1 x2 x3 x4 x5 d0 d1 d2 d3 d4 d5 d6 d7 d8 p0 p1 p2 p3 p4 p5 p6 p7 p8 : Int} {n0 n1 n2 n3 n4 n5 n6 n7 n8 : Nat} {sc fo pe : Bool} (v : Nat → Value) (l : Array Bool) (p : Nat) (W : World) (Q : Exit → Act → World → Prop) (K : Act → World → Prop) (o : Oper) (ho : opsR[58]? = some o) (hd : ∀ e ∈ o.after, Region.binds .any e = true → l.getD e.on false = true)
    (hS : EvS w wr A ec N G Pr x0 x1 x2 x3 x4 x5 d0 d1 d2 d3 d4 d5 d6 d7 d8 p0 p1 p2 p3 p4 p5 p6 p7 p8 sc fo pe W) (hK : ∀ W', EvS w wr A ec N G Pr x0 x1 x2 x3 x4 x5 d0 d1 d2 d3 d4 d5 d6 d7 d8 p0 p1 p2 p3 p4 p5 p6 p7 p8 sc fo pe W' → Below W.heap.size W W' → K ((actOf v (rv (w.heap.size + 1) N G Pr x0 x1 x2 x3 x4 x5 d0 d1 d2 d3 d4 d5 d6 d7 d8 n0 n1 n2 n3 n4 n5 n6 n7 n8 p0 p1 p2 p3 p4 p5 p6 p7 p8 sc fo pe) l p).put (some 124) (.pointer (some ⟨w.heap.size + 1, 19, none⟩))) W') : o.wp Ybad.prog (actOf v (rv (w.heap.size + 1) N G Pr x0 x1 x2 x3 x4 x5 d0 d1 d2 d3 d4 d5 d6 d7 d8 n0 n1 n2 n3 n4 n5 n6 n7 n8 p0 p1 p2 p3 p4 p5 p6 p7 p8 sc fo pe) l p) W K Q := by
  obtain ⟨ht1, ht2, ht3⟩ := tab_spec (i := 58) rfl rfl ho
  have hdp := dep_chk ht3 hd
  have h123 : (actOf v (rv (w.heap.size + 1) N G Pr x0 x1 x2 x3 x4 x5 d0 d1 d2 d3 d4 d5 d6 d7 d8 n0 n1 n2 n3 n4 n5 n6 n7 n8 p0 p1 p2 p3 p4 p5 p6 p7 p8 sc fo pe) l p).tmps[123]? = some (.pointer (some ⟨w.heap.size + 1, 12, none⟩)) := actOf_dep' v _ l p 123 _ (by omega) (by omega) (hdp 57 (by simp)) rfl
  clear hdp hd ho ht3
  generalize actOf v (rv (w.heap.size + 1) N G Pr x0 x1 x2 x3 x4 x5 d0 d1 d2 d3 d4 d5 d6 d7 d8 n0 n1 n2 n3 n4 n5 n6 n7 n8 p0 p1 p2 p3 p4 p5 p6 p7 p8 sc fo pe) l p = a at *
  obtain ⟨odst, oop, oty, opos, oaft, og⟩ := o
  obtain rfl : odst = some 124 := ht1
  obtain rfl : oop = .indexAddr 31 (.tmp 123) (.const (.int .i64 7)) := ht2
  have hK1 := hK W hS (Below.refl _ _)
  clear hK
  unfold Oper.wp execOp
  go_simp
  exact hK1
set_option maxHeartbeats 1000000 in
theorem op125 {w wr : World} {A : Nat → Value} {ec : List Value} {N G Pr x0 x1 x2 x3 x4 x5 d0 d1 d2 d3 d4 d5 d6 d7 d8 p0 p1 p2 p3 p4 p5 p6 p7 p8 : Int} {n0 n1 n2 n3 n4 n5 n6 n7 n8 : Nat} {sc fo pe : Bool} (v : Nat → Value) (l : Array Bool) (p : Nat) (W : World) (Q : Exit → Act → World → Prop) (K : Act → World → Prop) (o : Oper) (ho : opsR[59]? = some o) (hd : ∀ e ∈ o.after, Region.binds .any e = true → l.getD e.on false = true)
    (hS : EvS w wr A ec N G Pr x0 x1 x2 x3 x4 x5 d0 d1 d2 d3 d4 d5 d6 d7 d8 p0 p1 p2 p3 p4 p5 p6 p7 p8 sc fo pe W) (hK : ∀ W', EvS w wr A ec N G Pr x0 x1 x2 x3 x4 x5 d0 d1 d2 d3 d4 d5 d6 d7 d8 p0 p1 p2 p3 p4 p5 p6 p7 p8 sc fo pe W' → Below W.heap.size W W' → K ((actOf v (rv (w.heap.size + 1) N G Pr x0 x1 x2 x3 x4 x5 d0 d1 d2 d3 d4 d5 d6 d7 d8 n0 n1 n2 n3 n4 n5 n6 n7 n8 p0 p1 p2 p3 p4 p5 p6 p7 p8 sc fo pe) l p).put (some 125) (.int .u8 p7)) W') : o.wp Ybad.prog (actOf v (rv (w.heap.size + 1) N G Pr x0 x1 x2 x3 x4 x5 d0 d1 d2 d3 d4 d5 d6 d7 d8 n0 n1 n2 n3 n4 n5 n6 n7 n8 p0 p1 p2 p3 p4 p5 p6 p7 p8 sc fo pe) l p) W K Q := by
  obtain ⟨ht1, ht2, ht3⟩ := tab_spec (i := 59) rfl rfl ho
  have hdp := dep_chk ht3 hd
  have h124 : (actOf v (rv (w.heap.size + 1) N G Pr x0 x1 x2 x3 x4 x5 d0 d1 d2 d3 d4 d5 d6 d7 d8 n0 n1 n2 n3 n4 n5 n6 n7 n8 p0 p1 p2 p3 p4 p5 p6 p7 p8 sc fo pe) l p).tmps[124]? = some (.pointer (some ⟨w.heap.size + 1, 19, none⟩)) := actOf_dep' v _ l p 124 _ (by omega) (by omega) (hdp 58 (by simp)) rfl
  clear hdp hd ho ht3
  generalize actOf v (rv (w.heap.size + 1) N G Pr x0 x1 x2 x3 x4 x5 d0 d1 d2 d3 d4 d5 d6 d7 d8 n0 n1 n2 n3 n4 n5 n6 n7 n8 p0 p1 p2 p3 p4 p5 p6 p7 p8 sc fo pe) l p = a at *
  obtain ⟨odst, oop, oty, opos, oaft, og⟩ := o
  obtain rfl : odst = some 125 := ht1
  obtain rfl : oop = .load 5 (.tmp 124) := ht2
  have hK1 := hK W hS (Below.refl _ _)
  have hc : W.cell? ⟨w.heap.size + 1, 19, none⟩ = some (.int .u8 p7) := hS.2.2.2.2.2.2.2.2.2.2.2.2.2.2.2.2.2.2.2.1
  clear hK
  unfold Oper.wp execOp
  go_simp
  exact hK1
set_option maxHeartbeats 1000000 in
theorem op126 {w wr : World} {A : Nat → Value} {ec : List Value} {N G Pr x0 x1 x2 x3 x4 x5 d0 d1 d2 d3 d4 d5 d6 d7 d8 p0 p1 p2 p3 p4 p5 p6 p7 p8 : Int} {n0 n1 n2 n3 n4 n5 n6 n7 n8 : Nat} {sc fo pe : Bool} (v : Nat → Value) (l : Array Bool) (p : Nat) (W : World) (Q : Exit → Act → World → Prop) (K : Act → World → Prop) (o : Oper) (ho : opsR[60]? = some o) (hd : ∀ e ∈ o.after, Region.binds .any e = true → l.getD e.on false = true) (hn : p7 % 20 = ((n7 : Nat) : Int)) (ha : 0 ≤ p7) (hb : p7 ≤ 255)
    (hS : EvS w wr A ec N G Pr x0 x1 x2 x3 x4 x5 d0 d1 d2 d3 d4 d5 d6 d7 d8 p0 p1 p2 p3 p4 p5 p6 p7 p8 sc fo pe W) (hK : ∀ W', EvS w wr A ec N G Pr x0 x1 x2 x3 x4 x5 d0 d1 d2 d3 d4 d5 d6 d7 d8 p0 p1 p2 p3 p4 p5 p6 p7 p8 sc fo pe W' → Below W.heap.size W W' → K ((actOf v (rv (w.heap.size + 1) N G Pr x0 x1 x2 x3 x4 x5 d0 d1 d2 d3 d4 d5 d6 d7 d8 n0 n1 n2 n3 n4 n5 n6 n7 n8 p0 p1 p2 p3 p4 p5 p6 p7 p8 sc fo pe) l p).put (some 126) (.agg #[.int .u64 d7, .int .u8 ((n7 : Nat) : Int)])) W') : o.wp Ybad.prog (actOf v (rv (w.heap.size + 1) N G Pr x0 x1 x2 x3 x4 x5 d0 d1 d2 d3 d4 d5 d6 d7 d8 n0 n1 n2 n3 n4 n5 n6 n7 n8 p0 p1 p2 p3 p4 p5 p6 p7 p8 sc fo pe) l p) W K Q := by
  obtain ⟨ht1, ht2, ht3⟩ := tab_spec (i := 60) rfl rfl ho
  have hdp := dep_chk ht3 hd
  have h122 : (actOf v (rv (w.heap.size + 1) N G Pr x0 x1 x2 x3 x4 x5 d0 d1 d2 d3 d4 d5 d6 d7 d8 n0 n1 n2 n3 n4 n5 n6 n7 n8 p0 p1 p2 p3 p4 p5 p6 p7 p8 sc fo pe) l p).tmps[122]? = some (.int .u64 d7) := actOf_dep' v _ l p 122 _ (by omega) (by omega) (hdp 56 (by simp)) rfl
  have h125 : (actOf v (rv (w.heap.size + 1) N G Pr x0 x1 x2 x3 x4 x5 d0 d1 d2 d3 d4 d5 d6 d7 d8 n0 n1 n2 n3 n4 n5 n6 n7 n8 p0 p1 p2 p3 p4 p5 p6 p7 p8 sc fo pe) l p).tmps[125]? = some (.int .u8 p7) := actOf_dep' v _ l p 125 _ (by omega) (by omega) (hdp 59 (by simp)) rfl
  clear hdp hd ho ht3
  generalize actOf v (rv (w.heap.size + 1) N G Pr x0 x1 x2 x3 x4 x5 d0 d1 d2 d3 d4 d5 d6 d7 d8 n0 n1 n2 n3 n4 n5 n6 n7 n8 p0 p1 p2 p3 p4 p5 p6 p7 p8 sc fo pe) l p = a at *
  obtain ⟨odst, oop, oty, opos, oaft, og⟩ := o
  obtain rfl : odst = some 126 := ht1
  obtain rfl : oop = .call { callee := .value (.func 4), args := #[.tmp 122, .tmp 125], argTypes := #[29, 5] } := ht2
  have HC : Hid (p7 % 20 = ((n7 : Nat) : Int) ∧ 0 ≤ p7 ∧ p7 ≤ 255) := ⟨hn, ha, hb⟩
  clear hn ha hb
  unfold Oper.wp execOp
  go_simp
  refine (num_below d7 p7 n7 HC.out.1 HC.out.2.1 HC.out.2.2 W).mono ?_
  rintro en W' ⟨rfl, hu⟩
  exact hK W' (EvS.up hS hu) hu
set_option maxHeartbeats 1000000 in
theorem op127 {w wr : World} {A : Nat → Value} {ec : List Value} {N G Pr x0 x1 x2 x3 x4 x5 d0 d1 d2 d3 d4 d5 d6 d7 d8 p0 p1 p2 p3 p4 p5 p6 p7 p8 : Int} {n0 n1 n2 n3 n4 n5 n6 n7 n8 : Nat} {sc fo pe : Bool} (v : Nat → Value) (hv : v 5 = .pointer (some ⟨w.heap.size + 1, 0, none⟩)) (l : Array Bool) (p : Nat) (W : World) (Q : Exit → Act → World → Prop) (K : Act → World → Prop) (o : Oper) (ho : opsR[61]? = some o) (hd : ∀ e ∈ o.after, Region.binds .any e = true → l.getD e.on false = true)
    (hS : EvS w wr A ec N G Pr x0 x1 x2 x3 x4 x5 d0 d1 d2 d3 d4 d5 d6 d7 d8 p0 p1 p2 p3 p4 p5 p6 p7 p8 sc fo pe W) (hK : ∀ W', EvS w wr A ec N G Pr x0 x1 x2 x3 x4 x5 d0 d1 d2 d3 d4 d5 d6 d7 d8 p0 p1 p2 p3 p4 p5 p6 p7 p8 sc fo pe W' → Below W.heap.size W W' → K ((actOf v (rv (w.heap.size + 1) N G Pr x0 x1 x2 x3 x4 x5 d0 d1 d2 d3 d4 d5 d6 d7 d8 n0 n1 n2 n3 n4 n5 n6 n7 n8 p0 p1 p2 p3 p4 p5 p6 p7 p8 sc fo pe) l p).put (some 127) (.pointer (some ⟨w.heap.size + 1, 3, none⟩))) W') : o.wp Ybad.prog (actOf v (rv (w.heap.size + 1) N G Pr x0 x1 x2 x3 x4 x5 d0 d1 d2 d3 d4 d5 d6 d7 d8 n0 n1 n2 n3 n4 n5 n6 n7 n8 p0 p1 p2 p3 p4 p5 p6 p7 p8 sc fo pe) l p) W K Q := by
  obtain ⟨ht1, ht2, ht3⟩ := tab_spec (i := 61) rfl rfl ho
  have hdp := dep_chk ht3 hd
  have e5 := actOf_five' v (rv (w.heap.size + 1) N G Pr x0 x1 x2 x3 x4 x5 d0 d1 d2 d3 d4 d5 d6 d7 d8 n0 n1 n2 n3 n4 n5 n6 n7 n8 p0 p1 p2 p3 p4 p5 p6 p7 p8 sc fo pe) l p
  rw [hv] at e5
  clear hv

  clear hdp hd ho ht3
  generalize actOf v (rv (w.heap.size + 1) N G Pr x0 x1 x2 x3 x4 x5 d0 d1 d2 d3 d4 d5 d6 d7 d8 n0 n1 n2 n3 n4 n5 n6 n7 n8 p0 p1 p2 p3 p4 p5 p6 p7 p8 sc fo pe) l p = a at *
  obtain ⟨odst, oop, oty, opos, oaft, og⟩ := o
  obtain rfl : odst = some 127 := ht1
  obtain rfl : oop = .fieldAddr 33 (.tmp 5) 3 := ht2
  have hK1 := hK W hS (Below.refl _ _)
  clear hK
  unfold Oper.wp execOp
  go_simp
  exact hK1
set_option maxHeartbeats 1000000 in
theorem op128 {w wr : World} {A : Nat → Value} {ec : List Value} {N G Pr x0 x1 x2 x3 x4 x5 d0 d1 d2 d3 d4 d5 d6 d7 d8 p0 p1 p2 p3 p4 p5 p6 p7 p8 : Int} {n0 n1 n2 n3 n4 n5 n6 n7 n8 : Nat} {sc fo pe : Bool} (v : Nat → Value) (l : Array Bool) (p : Nat) (W : World) (Q : Exit → Act → World → Prop) (K : Act → World → Prop) (o : Oper) (ho : opsR[62]? = some o) (hd : ∀ e ∈ o.after, Region.binds .any e = true → l.getD e.on false = true)
    (hS : EvS w wr A ec N G Pr x0 x1 x2 x3 x4 x5 d0 d1 d2 d3 d4 d5 d6 d7 d8 p0 p1 p2 p3 p4 p5 p6 p7 p8 sc fo pe W) (hK : ∀ W', EvS w wr A ec N G Pr x0 x1 x2 x3 x4 x5 d0 d1 d2 d3 d4 d5 d6 d7 d8 p0 p1 p2 p3 p4 p5 p6 p7 p8 sc fo pe W' → Below W.heap.size W W' → K ((actOf v (rv (w.heap.size + 1) N G Pr x0 x1 x2 x3 x4 x5 d0 d1 d2 d3 d4 d5 d6 d7 d8 n0 n1 n2 n3 n4 n5 n6 n7 n8 p0 p1 p2 p3 p4 p5 p6 p7 p8 sc fo pe) l p).put (some 128) (.pointer (some ⟨w.heap.size + 1, 11, none⟩))) W') : o.wp Ybad.prog (actOf v (rv (w.heap.size + 1) N G Pr x0 x1 x2 x3 x4 x5 d0 d1 d2 d3 d4 d5 d6 d7 d8 n0 n1 n2 n3 n4 n5 n6 n7 n8 p0 p1 p2 p3 p4 p5 p6 p7 p8 sc fo pe) l p) W K Q := by
  obtain ⟨ht1, ht2, ht3⟩ := tab_spec (i := 62) rfl rfl ho
  have hdp := dep_chk ht3 hd
  have h127 : (actOf v (rv (w.heap.size + 1) N G Pr x0 x1 x2 x3 x4 x5 d0 d1 d2 d3 d4 d5 d6 d7 d8 n0 n1 n2 n3 n4 n5 n6 n7 n8 p0 p1 p2 p3 p4 p5 p6 p7 p8 sc fo pe) l p).tmps[127]? = some (.pointer (some ⟨w.heap.size + 1, 3, none⟩)) := actOf_dep' v _ l p 127 _ (by omega) (by omega) (hdp 61 (by simp)) rfl
  clear hdp hd ho ht3
  generalize actOf v (rv (w.heap.size + 1) N G Pr x0 x1 x2 x3 x4 x5 d0 d1 d2 d3 d4 d5 d6 d7 d8 n0 n1 n2 n3 n4 n5 n6 n7 n8 p0 p1 p2 p3 p4 p5 p6 p7 p8 sc fo pe) l p = a at *
  obtain ⟨odst, oop, oty, opos, oaft, og⟩ := o
  obtain rfl : odst = some 128 := ht1
  obtain rfl : oop = .indexAddr 30 (.tmp 127) (.const (.int .i64 8)) := ht2
  have hK1 := hK W hS (Below.refl _ _)
  clear hK
  unfold Oper.wp execOp
  go_simp
  exact hK1
set_option maxHeartbeats 1000000 in
theorem op129 {w wr : World} {A : Nat → Value} {ec : List Value} {N G Pr x0 x1 x2 x3 x4 x5 d0 d1 d2 d3 d4 d5 d6 d7 d8 p0 p1 p2 p3 p4 p5 p6 p7 p8 : Int} {n0 n1 n2 n3 n4 n5 n6 n7 n8 : Nat} {sc fo pe : Bool} (v : Nat → Value) (l : Array Bool) (p : Nat) (W : World) (Q : Exit → Act → World → Prop) (K : Act → World → Prop) (o : Oper) (ho : opsR[63]? = some o) (hd : ∀ e ∈ o.after, Region.binds .any e = true → l.getD e.on false = true)
    (hS : EvS w wr A ec N G Pr x0 x1 x2 x3 x4 x5 d0 d1 d2 d3 d4 d5 d6 d7 d8 p0 p1 p2 p3 p4 p5 p6 p7 p8 sc fo pe W) (hK : ∀ W', EvS w wr A ec N G Pr x0 x1 x2 x3 x4 x5 d0 d1 d2 d3 d4 d5 d6 d7 d8 p0 p1 p2 p3 p4 p5 p6 p7 p8 sc fo pe W' → Below W.heap.size W W' → K ((actOf v (rv (w.heap.size + 1) N G Pr x0 x1 x2 x3 x4 x5 d0 d1 d2 d3 d4 d5 d6 d7 d8 n0 n1 n2 n3 n4 n5 n6 n7 n8 p0 p1 p2 p3 p4 p5 p6 p7 p8 sc fo pe) l p).put (some 129) (.int .u64 d8)) W') : o.wp Ybad.prog (actOf v (rv (w.heap.size + 1) N G Pr x0 x1 x2 x3 x4 x5 d0 d1 d2 d3 d4 d5 d6 d7 d8 n0 n1 n2 n3 n4 n5 n6 n7 n8 p0 p1 p2 p3 p4 p5 p6 p7 p8 sc fo pe) l p) W K Q := by
  obtain ⟨ht1, ht2, ht3⟩ := tab_spec (i := 63) rfl rfl ho
  have hdp := dep_chk ht3 hd
  have h128 : (actOf v (rv (w.heap.size + 1) N G Pr x0 x1 x2 x3 x4 x5 d0 d1 d2 d3 d4 d5 d6 d7 d8 n0 n1 n2 n3 n4 n5 n6 n7 n8 p0 p1 p2 p3 p4 p5 p6 p7 p8 sc fo pe) l p).tmps[128]? = some (.pointer (some ⟨w.heap.size + 1, 11, none⟩)) := actOf_dep' v _ l p 128 _ (by omega) (by omega) (hdp 62 (by simp)) rfl
  clear hdp hd ho ht3
  generalize actOf v (rv (w.heap.size + 1) N G Pr x0 x1 x2 x3 x4 x5 d0 d1 d2 d3 d4 d5 d6 d7 d8 n0 n1 n2 n3 n4 n5 n6 n7 n8 p0 p1 p2 p3 p4 p5 p6 p7 p8 sc fo pe) l p = a at *
  obtain ⟨odst, oop, oty, opos, oaft, og⟩ := o
  obtain rfl : odst = some 129 := ht1
  obtain rfl : oop = .load 29 (.tmp 128) := ht2
  have hK1 := hK W hS (Below.refl _ _)
  have hc : W.cell? ⟨w.heap.size + 1, 11, none⟩ = some (.int .u64 d8) := hS.2.2.2.2.2.2.2.2.2.2.2.1
  clear hK
  unfold Oper.wp execOp
  go_simp
  exact hK1
set_option maxHeartbeats 1000000 in
theorem op130 {w wr : World} {A : Nat → Value} {ec : List Value} {N G Pr x0 x1 x2 x3 x4 x5 d0 d1 d2 d3 d4 d5 d6 d7 d8 p0 p1 p2 p3 p4 p5 p6 p7 p8 : Int} {n0 n1 n2 n3 n4 n5 n6 n7 n8 : Nat} {sc fo pe : Bool} (v : Nat → Value) (hv : v 5 = .pointer (some ⟨w.heap.size + 1, 0, none⟩)) (l : Array Bool) (p : Nat) (W : World) (Q : Exit → Act → World → Prop) (K : Act → World → Prop) (o : Oper) (ho : opsR[64]? = some o) (hd : ∀ e ∈ o.after, Region.binds .any e = true → l.getD e.on false = true)
    (hS : EvS w wr A ec N G Pr x0 x1 x2 x3 x4 x5 d0 d1 d2 d3 d4 d5 d6 d7 d8 p0 p1 p2 p3 p4 p5 p6 p7 p8 sc fo pe W) (hK : ∀ W', EvS w wr A ec N G Pr x0 x1 x2 x3 x4 x5 d0 d1 d2 d3 d4 d5 d6 d7 d8 p0 p1 p2 p3 p4 p5 p6 p7 p8 sc fo pe W' → Below W.heap.size W W' → K ((actOf v (rv (w.heap.size + 1) N G Pr x0 x1 x2 x3 x4 x5 d0 d1 d2 d3 d4 d5 d6 d7 d8 n0 n1 n2 n3 n4 n5 n6 n7 n8 p0 p1 p2 p3 p4 p5 p6 p7 p8 sc fo pe) l p).put (some 130) (.pointer (some ⟨w.heap.size + 1, 12, none⟩))) W') : o.wp Ybad.prog (actOf v (rv (w.heap.size + 1) N G Pr x0 x1 x2 x3 x4 x5 d0 d1 d2 d3 d4 d5 d6 d7 d8 n0 n1 n2 n3 n4 n5 n6 n7 n8 p0 p1 p2 p3 p4 p5 p6 p7 p8 sc fo pe) l p) W K Q := by
  obtain ⟨ht1, ht2, ht3⟩ := tab_spec (i := 64) rfl rfl ho
  have hdp := dep_chk ht3 hd
  have e5 := actOf_five' v (rv (w.heap.size + 1) N G Pr x0 x1 x2 x3 x4 x5 d0 d1 d2 d3 d4 d5 d6 d7 d8 n0 n1 n2 n3 n4 n5 n6 n7 n8 p0 p1 p2 p3 p4 p5 p6 p7 p8 sc fo pe) l p
  rw [hv] at e5
  clear hv

  clear hdp hd ho ht3
  generalize actOf v (rv (w.heap.size + 1) N G Pr x0 x1 x2 x3 x4 x5 d0 d1 d2 d3 d4 d5 d6 d7 d8 n0 n1 n2 n3 n4 n5 n6 n7 n8 p0 p1 p2 p3 p4 p5 p6 p7 p8 sc fo pe) l p = a at *
  obtain ⟨odst, oop, oty, opos, oaft, og⟩ := o
  obtain rfl : odst = some 130 := ht1
  obtain rfl : oop = .fieldAddr 33 (.tmp 5) 4 := ht2
  have hK1 := hK W hS (Below.refl _ _)
  clear hK
  unfold Oper.wp execOp
  go_simp
  exact hK1
set_option maxHeartbeats 1000000 in
theorem op131 {w wr : World} {A : Nat → Value} {ec : List Value} {N G Pr x0 x1 x2 x3 x4 x5 d0 d1 d2 d3 d4 d5 d6 d7 d8 p0 p1 p2 p3 p4 p5 p6 p7 p8 : Int} {n0 n1 n2 n3 n4 n5 n6 n7 n8 : Nat} {sc fo pe : Bool} (v : Nat → Value) (l : Array Bool) (p : Nat) (W : World) (Q : Exit → Act → World → Prop) (K : Act → World → Prop) (o : Oper) (ho : opsR[65]? = some o) (hd : ∀ e ∈ o.after, Region.binds .any e = true → l.getD e.on false = true)
    (hS : EvS w wr A ec N G Pr x0 x1 x2 x3 x4 x5 d0 d1 d2 d3 d4 d5 d6 d7 d8 p0 p1 p2 p3 p4 p5 p6 p7 p8 sc fo pe W) (hK : ∀ W', EvS w wr A ec N G Pr x0 x1 x2 x3 x4 x5 d0 d1 d2 d3 d4 d5 d6 d7 d8 p0 p1 p2 p3 p4 p5 p6 p7 p8 sc fo pe W' → Below W.heap.size W W' → K ((actOf v (rv (w.heap.size + 1) N G Pr x0 x1 x2 x3 x4 x5 d0 d1 d2 d3 d4 d5 d6 d7 d8 n0 n1 n2 n3 n4 n5 n6 n7 n8 p0 p1 p2 p3 p4 p5 p6 p7 p8 sc fo pe) l p).put (some 131) (.pointer (some ⟨w.heap.size + 1, 20, none⟩))) W') : o.wp Ybad.prog (actOf v (rv (w.heap.size + 1) N G Pr x0 x1 x2 x3 x4 x5 d0 d1 d2 d3 d4 d5 d6 d7 d8 n0 n1 n2 n3 n4 n5 n6 n7 n8 p0 p1 p2 p3 p4 p5 p6 p7 p8 sc fo pe) l p) W K Q := by
  obtain ⟨ht1, ht2, ht3⟩ := tab_spec (i := 65) rfl rfl ho
  have hdp := dep_chk ht3 hd
  have h130 : (actOf v (rv (w.heap.size + 1) N G Pr x0 x1 x2 x3 x4 x5 d0 d1 d2 d3 d4 d5 d6 d7 d8 n0 n1 n2 n3 n4 n5 n6 n7 n8 p0 p1 p2 p3 p4 p5 p6 p7 p8 sc fo pe) l p).tmps[130]? = some (.pointer (some ⟨w.heap.size + 1, 12, none⟩)) := actOf_dep' v _ l p 130 _ (by omega) (by omega) (hdp 64 (by simp)) rfl
  clear hdp hd ho ht3
  generalize actOf v (rv (w.heap.size + 1) N G Pr x0 x1 x2 x3 x4 x5 d0 d1 d2 d3 d4 d5 d6 d7 d8 n0 n1 n2 n3 n4 n5 n6 n7 n8 p0 p1 p2 p3 p4 p5 p6 p7 p8 sc fo pe) l p = a at *
  obtain ⟨odst, oop, oty, opos, oaft, og⟩ := o
  obtain rfl : odst = some 131 := ht1
  obtain rfl : oop = .indexAddr 31 (.tmp 130) (.const (.int .i64 8)) := ht2
  have hK1 := hK W hS (Below.refl _ _)
  clear hK
  unfold Oper.wp execOp
  go_simp
  exact hK1
set_option maxHeartbeats 1000000 in
theorem op132 {w wr : World} {A : Nat → Value} {ec : List Value} {N G Pr x0 x1 x2 x3 x4 x5 d0 d1 d2 d3 d4 d5 d6 d7 d8 p0 p1 p2 p3 p4 p5 p6 p7 p8 : Int} {n0 n1 n2 n3 n4 n5 n6 n7 n8 : Nat} {sc fo pe : Bool} (v : Nat → Value) (l : Array Bool) (p : Nat) (W : World) (Q : Exit → Act → World → Prop) (K : Act → World → Prop) (o : Oper) (ho : opsR[66]? = some o) (hd : ∀ e ∈ o.after, Region.binds .any e = true → l.getD e.on false = true)
    (hS : EvS w wr A ec N G Pr x0 x1 x2 x3 x4 x5 d0 d1 d2 d3 d4 d5 d6 d7 d8 p0 p1 p2 p3 p4 p5 p6 p7 p8 sc fo pe W) (hK : ∀ W', EvS w wr A ec N G Pr x0 x1 x2 x3 x4 x5 d0 d1 d2 d3 d4 d5 d6 d7 d8 p0 p1 p2 p3 p4 p5 p6 p7 p8 sc fo pe W' → Below W.heap.size W W' → K ((actOf v (rv (w.heap.size + 1) N G Pr x0 x1 x2 x3 x4 x5 d0 d1 d2 d3 d4 d5 d6 d7 d8 n0 n1 n2 n3 n4 n5 n6 n7 n8 p0 p1 p2 p3 p4 p5 p6 p7 p8 sc fo pe) l p).put (some 132) (.int .u8 p8)) W') : o.wp Ybad.prog (actOf v (rv (w.heap.size + 1) N G Pr x0 x1 x2 x3 x4 x5 d0 d1 d2 d3 d4 d5 d6 d7 d8 n0 n1 n2 n3 n4 n5 n6 n7 n8 p0 p1 p2 p3 p4 p5 p6 p7 p8 sc fo pe) l p) W K Q := by
  obtain ⟨ht1, ht2, ht3⟩ := tab_spec (i := 66) rfl rfl ho
  have hdp := dep_chk ht3 hd
  have h131 : (actOf v (rv (w.heap.size + 1) N G Pr x0 x1 x2 x3 x4 x5 d0 d1 d2 d3 d4 d5 d6 d7 d8 n0 n1 n2 n3 n4 n5 n6 n7 n8 p0 p1 p2 p3 p4 p5 p6 p7 p8 sc fo pe) l p).tmps[131]? = some (.pointer (some ⟨w.heap.size + 1, 20, none⟩)) := actOf_dep' v _ l p 131 _ (by omega) (by omega) (hdp 65 (by simp)) rfl
  clear hdp hd ho ht3
  generalize actOf v (rv (w.heap.size + 1) N G Pr x0 x1 x2 x3 x4 x5 d0 d1 d2 d3 d4 d5 d6 d7 d8 n0 n1 n2 n3 n4 n5 n6 n7 n8 p0 p1 p2 p3 p4 p5 p6 p7 p8 sc fo pe) l p = a at *
  obtain ⟨odst, oop, oty, opos, oaft, og⟩ := o
  obtain rfl : odst = some 132 := ht1
  obtain rfl : oop = .load 5 (.tmp 131) := ht2
  have hK1 := hK W hS (Below.refl _ _)
  have hc : W.cell? ⟨w.heap.size + 1, 20, none⟩ = some (.int .u8 p8) := hS.2.2.2.2.2.2.2.2.2.2.2.2.2.2.2.2.2.2.2.2.1
  clear hK
  unfold Oper.wp execOp
  go_simp
  exact hK1
set_option maxHeartbeats 1000000 in
theorem op133 {w wr : World} {A : Nat → Value} {ec : List Value} {N G Pr x0 x1 x2 x3 x4 x5 d0 d1 d2 d3 d4 d5 d6 d7 d8 p0 p1 p2 p3 p4 p5 p6 p7 p8 : Int} {n0 n1 n2 n3 n4 n5 n6 n7 n8 : Nat} {sc fo pe : Bool} (v : Nat → Value) (l : Array Bool) (p : Nat) (W : World) (Q : Exit → Act → World → Prop) (K : Act → World → Prop) (o : Oper) (ho : opsR[67]? = some o) (hd : ∀ e ∈ o.after, Region.binds .any e = true → l.getD e.on false = true) (hn : p8 % 20 = ((n8 : Nat) : Int)) (ha : 0 ≤ p8) (hb : p8 ≤ 255)
    (hS : EvS w wr A ec N G Pr x0 x1 x2 x3 x4 x5 d0 d1 d2 d3 d4 d5 d6 d7 d8 p0 p1 p2 p3 p4 p5 p6 p7 p8 sc fo pe W) (hK : ∀ W', EvS w wr A ec N G Pr x0 x1 x2 x3 x4 x5 d0 d1 d2 d3 d4 d5 d6 d7 d8 p0 p1 p2 p3 p4 p5 p6 p7 p8 sc fo pe W' → Below W.heap.size W W' → K ((actOf v (rv (w.heap.size + 1) N G Pr x0 x1 x2 x3 x4 x5 d0 d1 d2 d3 d4 d5 d6 d7 d8 n0 n1 n2 n3 n4 n5 n6 n7 n8 p0 p1 p2 p3 p4 p5 p6 p7 p8 sc fo pe) l p).put (some 133) (.agg #[.int .u64 d8, .int .u8 ((n8 : Nat) : Int)])) W') : o.wp Ybad.prog (actOf v (rv (w.heap.size + 1) N G Pr x0 x1 x2 x3 x4 x5 d0 d1 d2 d3 d4 d5 d6 d7 d8 n0 n1 n2 n3 n4 n5 n6 n7 n8 p0 p1 p2 p3 p4 p5 p6 p7 p8 sc fo pe) l p) W K Q := by
  obtain ⟨ht1, ht2, ht3⟩ := tab_spec (i := 67) rfl rfl ho
  have hdp := dep_chk ht3 hd
  have h129 : (actOf v (rv (w.heap.size + 1) N G Pr x0 x1 x2 x3 x4 x5 d0 d1 d2 d3 d4 d5 d6 d7 d8 n0 n1 n2 n3 n4 n5 n6 n7 n8 p0 p1 p2 p3 p4 p5 p6 p7 p8 sc fo pe) l p).tmps[129]? = some (.int .u64 d8) := actOf_dep' v _ l p 129 _ (by omega) (by omega) (hdp 63 (by simp)) rfl
  have h132 : (actOf v (rv (w.heap.size + 1) N G Pr x0 x1 x2 x3 x4 x5 d0 d1 d2 d3 d4 d5 d6 d7 d8 n0 n1 n2 n3 n4 n5 n6 n7 n8 p0 p1 p2 p3 p4 p5 p6 p7 p8 sc fo pe) l p).tmps[132]? = some (.int .u8 p8) := actOf_dep' v _ l p 132 _ (by omega) (by omega) (hdp 66 (by simp)) rfl
  clear hdp hd ho ht3
  generalize actOf v (rv (w.heap.size + 1) N G Pr x0 x1 x2 x3 x4 x5 d0 d1 d2 d3 d4 d5 d6 d7 d8 n0 n1 n2 n3 n4 n5 n6 n7 n8 p0 p1 p2 p3 p4 p5 p6 p7 p8 sc fo pe) l p = a at *
  obtain ⟨odst, oop, oty, opos, oaft, og⟩ := o
  obtain rfl : odst = some 133 := ht1
  obtain rfl : oop = .call { callee := .value (.func 4), args := #[.tmp 129, .tmp 132], argTypes := #[29, 5] } := ht2
  have HC : Hid (p8 % 20 = ((n8 : Nat) : Int) ∧ 0 ≤ p8 ∧ p8 ≤ 255) := ⟨hn, ha, hb⟩
  clear hn ha hb
  unfold Oper.wp execOp
  go_simp
  refine (num_below d8 p8 n8 HC.out.1 HC.out.2.1 HC.out.2.2 W).mono ?_
  rintro en W' ⟨rfl, hu⟩
  exact hK W' (EvS.up hS hu) hu
set_option maxHeartbeats 1000000 in
theorem op134 {w wr : World} {A : Nat → Value} {ec : List Value} {N G Pr x0 x1 x2 x3 x4 x5 d0 d1 d2 d3 d4 d5 d6 d7 d8 p0 p1 p2 p3 p4 p5 p6 p7 p8 : Int} {n0 n1 n2 n3 n4 n5 n6 n7 n8 : Nat} {sc fo pe : Bool} (v : Nat → Value) (l : Array Bool) (p : Nat) (W : World) (Q : Exit → Act → World → Prop) (K : Act → World → Prop) (o : Oper) (ho : opsR[68]? = some o) (hd : ∀ e ∈ o.after, Region.binds .any e = true → l.getD e.on false = true)
    (hS : EvS w wr A ec N G Pr x0 x1 x2 x3 x4 x5 d0 d1 d2 d3 d4 d5 d6 d7 d8 p0 p1 p2 p3 p4 p5 p6 p7 p8 sc fo pe W) (hK : ∀ W', EvS w wr A ec N G Pr x0 x1 x2 x3 x4 x5 d0 d1 d2 d3 d4 d5 d6 d7 d8 p0 p1 p2 p3 p4 p5 p6 p7 p8 sc fo pe W' → Below W.heap.size W W' → K ((actOf v (rv (w.heap.size + 1) N G Pr x0 x1 x2 x3 x4 x5 d0 d1 d2 d3 d4 d5 d6 d7 d8 n0 n1 n2 n3 n4 n5 n6 n7 n8 p0 p1 p2 p3 p4 p5 p6 p7 p8 sc fo pe) l p).put (some 134) (.agg #[.int .u64 d4, .int .u8 ((n4 : Nat) : Int), .int .u64 d5, .int .u8 ((n5 : Nat) : Int), .int .u64 d6, .int .u8 ((n6 : Nat) : Int), .int .u64 d7, .int .u8 ((n7 : Nat) : Int), .int .u64 d8, .int .u8 ((n8 : Nat) : Int)])) W') : o.wp Ybad.prog (actOf v (rv (w.heap.size + 1) N G Pr x0 x1 x2 x3 x4 x5 d0 d1 d2 d3 d4 d5 d6 d7 d8 n0 n1 n2 n3 n4 n5 n6 n7 n8 p0 p1 p2 p3 p4 p5 p6 p7 p8 sc fo pe) l p) W K Q := by
  obtain ⟨ht1, ht2, ht3⟩ := tab_spec (i := 68) rfl rfl ho
  have hdp := dep_chk ht3 hd
  have h105 : (actOf v (rv (w.heap.size + 1) N G Pr x0 x1 x2 x3 x4 x5 d0 d1 d2 d3 d4 d5 d6 d7 d8 n0 n1 n2 n3 n4 n5 n6 n7 n8 p0 p1 p2 p3 p4 p5 p6 p7 p8 sc fo pe) l p).tmps[105]? = some (.agg #[.int .u64 d4, .int .u8 ((n4 : Nat) : Int)]) := actOf_dep' v _ l p 105 _ (by omega) (by omega) (hdp 39 (by simp)) rfl
  have h112 : (actOf v (rv (w.heap.size + 1) N G Pr x0 x1 x2 x3 x4 x5 d0 d1 d2 d3 d4 d5 d6 d7 d8 n0 n1 n2 n3 n4 n5 n6 n7 n8 p0 p1 p2 p3 p4 p5 p6 p7 p8 sc fo pe) l p).tmps[112]? = some (.agg #[.int .u64 d5, .int .u8 ((n5 : Nat) : Int)]) := actOf_dep' v _ l p 112 _ (by omega) (by omega) (hdp 46 (by simp)) rfl
  have h119 : (actOf v (rv (w.heap.size + 1) N G Pr x0 x1 x2 x3 x4 x5 d0 d1 d2 d3 d4 d5 d6 d7 d8 n0 n1 n2 n3 n4 n5 n6 n7 n8 p0 p1 p2 p3 p4 p5 p6 p7 p8 sc fo pe) l p).tmps[119]? = some (.agg #[.int .u64 d6, .int .u8 ((n6 : Nat) : Int)]) := actOf_dep' v _ l p 119 _ (by omega) (by omega) (hdp 53 (by simp)) rfl
  have h126 : (actOf v (rv (w.heap.size + 1) N G Pr x0 x1 x2 x3 x4 x5 d0 d1 d2 d3 d4 d5 d6 d7 d8 n0 n1 n2 n3 n4 n5 n6 n7 n8 p0 p1 p2 p3 p4 p5 p6 p7 p8 sc fo pe) l p).tmps[126]? = some (.agg #[.int .u64 d7, .int .u8 ((n7 : Nat) : Int)]) := actOf_dep' v _ l p 126 _ (by omega) (by omega) (hdp 60 (by simp)) rfl
  have h133 : (actOf v (rv (w.heap.size + 1) N G Pr x0 x1 x2 x3 x4 x5 d0 d1 d2 d3 d4 d5 d6 d7 d8 n0 n1 n2 n3 n4 n5 n6 n7 n8 p0 p1 p2 p3 p4 p5 p6 p7 p8 sc fo pe) l p).tmps[133]? = some (.agg #[.int .u64 d8, .int .u8 ((n8 : Nat) : Int)]) := actOf_dep' v _ l p 133 _ (by omega) (by omega) (hdp 67 (by simp)) rfl
  clear hdp hd ho ht3
  generalize actOf v (rv (w.heap.size + 1) N G Pr x0 x1 x2 x3 x4 x5 d0 d1 d2 d3 d4 d5 d6 d7 d8 n0 n1 n2 n3 n4 n5 n6 n7 n8 p0 p1 p2 p3 p4 p5 p6 p7 p8 sc fo pe) l p = a at *
  obtain ⟨odst, oop, oty, opos, oaft, og⟩ := o
  obtain rfl : odst = some 134 := ht1
  obtain rfl : oop = .build 46 #[(0, .tmp 105), (1, .tmp 112), (2, .tmp 119), (3, .tmp 126), (4, .tmp 133)] := ht2
  have hK1 := hK W hS (Below.refl _ _)
  clear hK
  unfold Oper.wp execOp
  go_simp
  exact hK1
set_option maxHeartbeats 1000000 in
theorem op135 {w wr : World} {A : Nat → Value} {ec : List Value} {N G Pr x0 x1 x2 x3 x4 x5 d0 d1 d2 d3 d4 d5 d6 d7 d8 p0 p1 p2 p3 p4 p5 p6 p7 p8 : Int} {n0 n1 n2 n3 n4 n5 n6 n7 n8 : Nat} {sc fo pe : Bool} (v : Nat → Value) (hv : v 5 = .pointer (some ⟨w.heap.size + 1, 0, none⟩)) (l : Array Bool) (p : Nat) (W : World) (Q : Exit → Act → World → Prop) (K : Act → World → Prop) (o : Oper) (ho : opsR[69]? = some o) (hd : ∀ e ∈ o.after, Region.binds .any e = true → l.getD e.on false = true)
    (hS : EvS w wr A ec N G Pr x0 x1 x2 x3 x4 x5 d0 d1 d2 d3 d4 d5 d6 d7 d8 p0 p1 p2 p3 p4 p5 p6 p7 p8 sc fo pe W) (hK : ∀ W', EvS w wr A ec N G Pr x0 x1 x2 x3 x4 x5 d0 d1 d2 d3 d4 d5 d6 d7 d8 p0 p1 p2 p3 p4 p5 p6 p7 p8 sc fo pe W' → Below W.heap.size W W' → K ((actOf v (rv (w.heap.size + 1) N G Pr x0 x1 x2 x3 x4 x5 d0 d1 d2 d3 d4 d5 d6 d7 d8 n0 n1 n2 n3 n4 n5 n6 n7 n8 p0 p1 p2 p3 p4 p5 p6 p7 p8 sc fo pe) l p).put (some 135) (.pointer (some ⟨w.heap.size + 1, 21, none⟩))) W') : o.wp Ybad.prog (actOf v (rv (w.heap.size + 1) N G Pr x0 x1 x2 x3 x4 x5 d0 d1 d2 d3 d4 d5 d6 d7 d8 n0 n1 n2 n3 n4 n5 n6 n7 n8 p0 p1 p2 p3 p4 p5 p6 p7 p8 sc fo pe) l p) W K Q := by
  obtain ⟨ht1, ht2, ht3⟩ := tab_spec (i := 69) rfl rfl ho
  have hdp := dep_chk ht3 hd
  have e5 := actOf_five' v (rv (w.heap.size + 1) N G Pr x0 x1 x2 x3 x4 x5 d0 d1 d2 d3 d4 d5 d6 d7 d8 n0 n1 n2 n3 n4 n5 n6 n7 n8 p0 p1 p2 p3 p4 p5 p6 p7 p8 sc fo pe) l p
  rw [hv] at e5
  clear hv

  clear hdp hd ho ht3
  generalize actOf v (rv (w.heap.size + 1) N G Pr x0 x1 x2 x3 x4 x5 d0 d1 d2 d3 d4 d5 d6 d7 d8 n0 n1 n2 n3 n4 n5 n6 n7 n8 p0 p1 p2 p3 p4 p5 p6 p7 p8 sc fo pe) l p = a at *
  obtain ⟨odst, oop, oty, opos, oaft, og⟩ := o
  obtain rfl : odst = some 135 := ht1
  obtain rfl : oop = .fieldAddr 33 (.tmp 5) 5 := ht2
  have hK1 := hK W hS (Below.refl _ _)
  clear hK
  unfold Oper.wp execOp
  go_simp
  exact hK1
set_option maxHeartbeats 1000000 in
theorem op136 {w wr : World} {A : Nat → Value} {ec : List Value} {N G Pr x0 x1 x2 x3 x4 x5 d0 d1 d2 d3 d4 d5 d6 d7 d8 p0 p1 p2 p3 p4 p5 p6 p7 p8 : Int} {n0 n1 n2 n3 n4 n5 n6 n7 n8 : Nat} {sc fo pe : Bool} (v : Nat → Value) (l : Array Bool) (p : Nat) (W : World) (Q : Exit → Act → World → Prop) (K : Act → World → Prop) (o : Oper) (ho : opsR[70]? = some o) (hd : ∀ e ∈ o.after, Region.binds .any e = true → l.getD e.on false = true)
    (hS : EvS w wr A ec N G Pr x0 x1 x2 x3 x4 x5 d0 d1 d2 d3 d4 d5 d6 d7 d8 p0 p1 p2 p3 p4 p5 p6 p7 p8 sc fo pe W) (hK : ∀ W', EvS w wr A ec N G Pr x0 x1 x2 x3 x4 x5 d0 d1 d2 d3 d4 d5 d6 d7 d8 p0 p1 p2 p3 p4 p5 p6 p7 p8 sc fo pe W' → Below W.heap.size W W' → K ((actOf v (rv (w.heap.size + 1) N G Pr x0 x1 x2 x3 x4 x5 d0 d1 d2 d3 d4 d5 d6 d7 d8 n0 n1 n2 n3 n4 n5 n6 n7 n8 p0 p1 p2 p3 p4 p5 p6 p7 p8 sc fo pe) l p).put (some 136) (.int .i64 x0)) W') : o.wp Ybad.prog (actOf v (rv (w.heap.size + 1) N G Pr x0 x1 x2 x3 x4 x5 d0 d1 d2 d3 d4 d5 d6 d7 d8 n0 n1 n2 n3 n4 n5 n6 n7 n8 p0 p1 p2 p3 p4 p5 p6 p7 p8 sc fo pe) l p) W K Q := by
  obtain ⟨ht1, ht2, ht3⟩ := tab_spec (i := 70) rfl rfl ho
  have hdp := dep_chk ht3 hd
  have h135 : (actOf v (rv (w.heap.size + 1) N G Pr x0 x1 x2 x3 x4 x5 d0 d1 d2 d3 d4 d5 d6 d7 d8 n0 n1 n2 n3 n4 n5 n6 n7 n8 p0 p1 p2 p3 p4 p5 p6 p7 p8 sc fo pe) l p).tmps[135]? = some (.pointer (some ⟨w.heap.size + 1, 21, none⟩)) := actOf_dep' v _ l p 135 _ (by omega) (by omega) (hdp 69 (by simp)) rfl
  clear hdp hd ho ht3
  generalize actOf v (rv (w.heap.size + 1) N G Pr x0 x1 x2 x3 x4 x5 d0 d1 d2 d3 d4 d5 d6 d7 d8 n0 n1 n2 n3 n4 n5 n6 n7 n8 p0 p1 p2 p3 p4 p5 p6 p7 p8 sc fo pe) l p = a at *
  obtain ⟨odst, oop, oty, opos, oaft, og⟩ := o
  obtain rfl : odst = some 136 := ht1
  obtain rfl : oop = .load 3 (.tmp 135) := ht2
  have hK1 := hK W hS (Below.refl _ _)
  have hc : W.cell? ⟨w.heap.size + 1, 21, none⟩ = some (.int .i64 x0) := hS.2.2.2.2.2.2.2.2.2.2.2.2.2.2.2.2.2.2.2.2.2.1
  clear hK
  unfold Oper.wp execOp
  go_simp
  exact hK1
set_option maxHeartbeats 1000000 in
theorem op137 {w wr : World} {A : Nat → Value} {ec : List Value} {N G Pr x0 x1 x2 x3 x4 x5 d0 d1 d2 d3 d4 d5 d6 d7 d8 p0 p1 p2 p3 p4 p5 p6 p7 p8 : Int} {n0 n1 n2 n3 n4 n5 n6 n7 n8 : Nat} {sc fo pe : Bool} (v : Nat → Value) (hv : v 5 = .pointer (some ⟨w.heap.size + 1, 0, none⟩)) (l : Array Bool) (p : Nat) (W : World) (Q : Exit → Act → World → Prop) (K : Act → World → Prop) (o : Oper) (ho : opsR[71]? = some o) (hd : ∀ e ∈ o.after, Region.binds .any e = true → l.getD e.on false = true)
    (hS : EvS w wr A ec N G Pr x0 x1 x2 x3 x4 x5 d0 d1 d2 d3 d4 d5 d6 d7 d8 p0 p1 p2 p3 p4 p5 p6 p7 p8 sc fo pe W) (hK : ∀ W', EvS w wr A ec N G Pr x0 x1 x2 x3 x4 x5 d0 d1 d2 d3 d4 d5 d6 d7 d8 p0 p1 p2 p3 p4 p5 p6 p7 p8 sc fo pe W' → Below W.heap.size W W' → K ((actOf v (rv (w.heap.size + 1) N G Pr x0 x1 x2 x3 x4 x5 d0 d1 d2 d3 d4 d5 d6 d7 d8 n0 n1 n2 n3 n4 n5 n6 n7 n8 p0 p1 p2 p3 p4 p5 p6 p7 p8 sc fo pe) l p).put (some 137) (.pointer (some ⟨w.heap.size + 1, 22, none⟩))) W') : o.wp Ybad.prog (actOf v (rv (w.heap.size + 1) N G Pr x0 x1 x2 x3 x4 x5 d0 d1 d2 d3 d4 d5 d6 d7 d8 n0 n1 n2 n3 n4 n5 n6 n7 n8 p0 p1 p2 p3 p4 p5 p6 p7 p8 sc fo pe) l p) W K Q := by
  obtain ⟨ht1, ht2, ht3⟩ := tab_spec (i := 71) rfl rfl ho
  have hdp := dep_chk ht3 hd
  have e5 := actOf_five' v (rv (w.heap.size + 1) N G Pr x0 x1 x2 x3 x4 x5 d0 d1 d2 d3 d4 d5 d6 d7 d8 n0 n1 n2 n3 n4 n5 n6 n7 n8 p0 p1 p2 p3 p4 p5 p6 p7 p8 sc fo pe) l p
  rw [hv] at e5
  clear hv

  clear hdp hd ho ht3
  generalize actOf v (rv (w.heap.size + 1) N G Pr x0 x1 x2 x3 x4 x5 d0 d1 d2 d3 d4 d5 d6 d7 d8 n0 n1 n2 n3 n4 n5 n6 n7 n8 p0 p1 p2 p3 p4 p5 p6 p7 p8 sc fo pe) l p = a at *
  obtain ⟨odst, oop, oty, opos, oaft, og⟩ := o
  obtain rfl : odst = some 137 := ht1
  obtain rfl : oop = .fieldAddr 33 (.tmp 5) 6 := ht2
  have hK1 := hK W hS (Below.refl _ _)
  clear hK
  unfold Oper.wp execOp
  go_simp
  exact hK1
set_option maxHeartbeats 1000000 in
theorem op138 {w wr : World} {A : Nat → Value} {ec : List Value} {N G Pr x0 x1 x2 x3 x4 x5 d0 d1 d2 d3 d4 d5 d6 d7 d8 p0 p1 p2 p3 p4 p5 p6 p7 p8 : Int} {n0 n1 n2 n3 n4 n5 n6 n7 n8 : Nat} {sc fo pe : Bool} (v : Nat → Value) (l : Array Bool) (p : Nat) (W : World) (Q : Exit → Act → World → Prop) (K : Act → World → Prop) (o : Oper) (ho : opsR[72]? = some o) (hd : ∀ e ∈ o.after, Region.binds .any e = true → l.getD e.on false = true)
    (hS : EvS w wr A ec N G Pr x0 x1 x2 x3 x4 x5 d0 d1 d2 d3 d4 d5 d6 d7 d8 p0 p1 p2 p3 p4 p5 p6 p7 p8 sc fo pe W) (hK : ∀ W', EvS w wr A ec N G Pr x0 x1 x2 x3 x4 x5 d0 d1 d2 d3 d4 d5 d6 d7 d8 p0 p1 p2 p3 p4 p5 p6 p7 p8 sc fo pe W' → Below W.heap.size W W' → K ((actOf v (rv (w.heap.size + 1) N G Pr x0 x1 x2 x3 x4 x5 d0 d1 d2 d3 d4 d5 d6 d7 d8 n0 n1 n2 n3 n4 n5 n6 n7 n8 p0 p1 p2 p3 p4 p5 p6 p7 p8 sc fo pe) l p).put (some 138) (.int .i64 x1)) W') : o.wp Ybad.prog (actOf v (rv (w.heap.size + 1) N G Pr x0 x1 x2 x3 x4 x5 d0 d1 d2 d3 d4 d5 d6 d7 d8 n0 n1 n2 n3 n4 n5 n6 n7 n8 p0 p1 p2 p3 p4 p5 p6 p7 p8 sc fo pe) l p) W K Q := by
  obtain ⟨ht1, ht2, ht3⟩ := tab_spec (i := 72) rfl rfl ho
  have hdp := dep_chk ht3 hd
  have h137 : (actOf v (rv (w.heap.size + 1) N G Pr x0 x1 x2 x3 x4 x5 d0 d1 d2 d3 d4 d5 d6 d7 d8 n0 n1 n2 n3 n4 n5 n6 n7 n8 p0 p1 p2 p3 p4 p5 p6 p7 p8 sc fo pe) l p).tmps[137]? = some (.pointer (some ⟨w.heap.size + 1, 22, none⟩)) := actOf_dep' v _ l p 137 _ (by omega) (by omega) (hdp 71 (by simp)) rfl
  clear hdp hd ho ht3
  generalize actOf v (rv (w.heap.size + 1) N G Pr x0 x1 x2 x3 x4 x5 d0 d1 d2 d3 d4 d5 d6 d7 d8 n0 n1 n2 n3 n4 n5 n6 n7 n8 p0 p1 p2 p3 p4 p5 p6 p7 p8 sc fo pe) l p = a at *
  obtain ⟨odst, oop, oty, opos, oaft, og⟩ := o
  obtain rfl : odst = some 138 := ht1
  obtain rfl : oop = .load 3 (.tmp 137) := ht2
  have hK1 := hK W hS (Below.refl _ _)
  have hc : W.cell? ⟨w.heap.size + 1, 22, none⟩ = some (.int .i64 x1) := hS.2.2.2.2.2.2.2.2.2.2.2.2.2.2.2.2.2.2.2.2.2.2.1
  clear hK
  unfold Oper.wp execOp
  go_simp
  exact hK1
set_option maxHeartbeats 1000000 in
theorem op139 {w wr : World} {A : Nat → Value} {ec : List Value} {N G Pr x0 x1 x2 x3 x4 x5 d0 d1 d2 d3 d4 d5 d6 d7 d8 p0 p1 p2 p3 p4 p5 p6 p7 p8 : Int} {n0 n1 n2 n3 n4 n5 n6 n7 n8 : Nat} {sc fo pe : Bool} (v : Nat → Value) (hv : v 5 = .pointer (some ⟨w.heap.size + 1, 0, none⟩)) (l : Array Bool) (p : Nat) (W : World) (Q : Exit → Act → World → Prop) (K : Act → World → Prop) (o : Oper) (ho : opsR[73]? = some o) (hd : ∀ e ∈ o.after, Region.binds .any e = true → l.getD e.on false = true)
    (hS : EvS w wr A ec N G Pr x0 x1 x2 x3 x4 x5 d0 d1 d2 d3 d4 d5 d6 d7 d8 p0 p1 p2 p3 p4 p5 p6 p7 p8 sc fo pe W) (hK : ∀ W', EvS w wr A ec N G Pr x0 x1 x2 x3 x4 x5 d0 d1 d2 d3 d4 d5 d6 d7 d8 p0 p1 p2 p3 p4 p5 p6 p7 p8 sc fo pe W' → Below W.heap.size W W' → K ((actOf v (rv (w.heap.size + 1) N G Pr x0 x1 x2 x3 x4 x5 d0 d1 d2 d3 d4 d5 d6 d7 d8 n0 n1 n2 n3 n4 n5 n6 n7 n8 p0 p1 p2 p3 p4 p5 p6 p7 p8 sc fo pe) l p).put (some 139) (.pointer (some ⟨w.heap.size + 1, 23, none⟩))) W') : o.wp Ybad.prog (actOf v (rv (w.heap.size + 1) N G Pr x0 x1 x2 x3 x4 x5 d0 d1 d2 d3 d4 d5 d6 d7 d8 n0 n1 n2 n3 n4 n5 n6 n7 n8 p0 p1 p2 p3 p4 p5 p6 p7 p8 sc fo pe) l p) W K Q := by
  obtain ⟨ht1, ht2, ht3⟩ := tab_spec (i := 73) rfl rfl ho
  have hdp := dep_chk ht3 hd
  have e5 := actOf_five' v (rv (w.heap.size + 1) N G Pr x0 x1 x2 x3 x4 x5 d0 d1 d2 d3 d4 d5 d6 d7 d8 n0 n1 n2 n3 n4 n5 n6 n7 n8 p0 p1 p2 p3 p4 p5 p6 p7 p8 sc fo pe) l p
  rw [hv] at e5
  clear hv

  clear hdp hd ho ht3
  generalize actOf v (rv (w.heap.size + 1) N G Pr x0 x1 x2 x3 x4 x5 d0 d1 d2 d3 d4 d5 d6 d7 d8 n0 n1 n2 n3 n4 n5 n6 n7 n8 p0 p1 p2 p3 p4 p5 p6 p7 p8 sc fo pe) l p = a at *
  obtain ⟨odst, oop, oty, opos, oaft, og⟩ := o
  obtain rfl : odst = some 139 := ht1
  obtain rfl : oop = .fieldAddr 33 (.tmp 5) 7 := ht2
  have hK1 := hK W hS (Below.refl _ _)
  clear hK
  unfold Oper.wp execOp
  go_simp
  exact hK1
set_option maxHeartbeats 1000000 in
theorem op140 {w wr : World} {A : Nat → Value} {ec : List Value} {N G Pr x0 x1 x2 x3 x4 x5 d0 d1 d2 d3 d4 d5 d6 d7 d8 p0 p1 p2 p3 p4 p5 p6 p7 p8 : Int} {n0 n1 n2 n3 n4 n5 n6 n7 n8 : Nat} {sc fo pe : Bool} (v : Nat → Value) (l : Array Bool) (p : Nat) (W : World) (Q : Exit → Act → World → Prop) (K : Act → World → Prop) (o : Oper) (ho : opsR[74]? = some o) (hd : ∀ e ∈ o.after, Region.binds .any e = true → l.getD e.on false = true)
    (hS : EvS w wr A ec N G Pr x0 x1 x2 x3 x4 x5 d0 d1 d2 d3 d4 d5 d6 d7 d8 p0 p1 p2 p3 p4 p5 p6 p7 p8 sc fo pe W) (hK : ∀ W', EvS w wr A ec N G Pr x0 x1 x2 x3 x4 x5 d0 d1 d2 d3 d4 d5 d6 d7 d8 p0 p1 p2 p3 p4 p5 p6 p7 p8 sc fo pe W' → Below W.heap.size W W' → K ((actOf v (rv (w.heap.size + 1) N G Pr x0 x1 x2 x3 x4 x5 d0 d1 d2 d3 d4 d5 d6 d7 d8 n0 n1 n2 n3 n4 n5 n6 n7 n8 p0 p1 p2 p3 p4 p5 p6 p7 p8 sc fo pe) l p).put (some 140) (.int .i64 x2)) W') : o.wp Ybad.prog (actOf v (rv (w.heap.size + 1) N G Pr x0 x1 x2 x3 x4 x5 d0 d1 d2 d3 d4 d5 d6 d7 d8 n0 n1 n2 n3 n4 n5 n6 n7 n8 p0 p1 p2 p3 p4 p5 p6 p7 p8 sc fo pe) l p) W K Q := by
  obtain ⟨ht1, ht2, ht3⟩ := tab_spec (i := 74) rfl rfl ho
  have hdp := dep_chk ht3 hd
  have h139 : (actOf v (rv (w.heap.size + 1) N G Pr x0 x1 x2 x3 x4 x5 d0 d1 d2 d3 d4 d5 d6 d7 d8 n0 n1 n2 n3 n4 n5 n6 n7 n8 p0 p1 p2 p3 p4 p5 p6 p7 p8 sc fo pe) l p).tmps[139]? = some (.pointer (some ⟨w.heap.size + 1, 23, none⟩)) := actOf_dep' v _ l p 139 _ (by omega) (by omega) (hdp 73 (by simp)) rfl
  clear hdp hd ho ht3
  generalize actOf v (rv (w.heap.size + 1) N G Pr x0 x1 x2 x3 x4 x5 d0 d1 d2 d3 d4 d5 d6 d7 d8 n0 n1 n2 n3 n4 n5 n6 n7 n8 p0 p1 p2 p3 p4 p5 p6 p7 p8 sc fo pe) l p = a at *
  obtain ⟨odst, oop, oty, opos, oaft, og⟩ := o
  obtain rfl : odst = some 140 := ht1
  obtain rfl : oop = .load 3 (.tmp 139) := ht2
  have hK1 := hK W hS (Below.refl _ _)
  have hc : W.cell? ⟨w.heap.size + 1, 23, none⟩ = some (.int .i64 x2) := hS.2.2.2.2.2.2.2.2.2.2.2.2.2.2.2.2.2.2.2.2.2.2.2.1
  clear hK
  unfold Oper.wp execOp
  go_simp
  exact hK1
set_option maxHeartbeats 1000000 in
theorem op141 {w wr : World} {A : Nat → Value} {ec : List Value} {N G Pr x0 x1 x2 x3 x4 x5 d0 d1 d2 d3 d4 d5 d6 d7 d8 p0 p1 p2 p3 p4 p5 p6 p7 p8 : Int} {n0 n1 n2 n3 n4 n5 n6 n7 n8 : Nat} {sc fo pe : Bool} (v : Nat → Value) (hv : v 5 = .pointer (some ⟨w.heap.size + 1, 0, none⟩)) (l : Array Bool) (p : Nat) (W : World) (Q : Exit → Act → World → Prop) (K : Act → World → Prop) (o : Oper) (ho : opsR[75]? = some o) (hd : ∀ e ∈ o.after, Region.binds .any e = true → l.getD e.on false = true)
    (hS : EvS w wr A ec N G Pr x0 x1 x2 x3 x4 x5 d0 d1 d2 d3 d4 d5 d6 d7 d8 p0 p1 p2 p3 p4 p5 p6 p7 p8 sc fo pe W) (hK : ∀ W', EvS w wr A ec N G Pr x0 x1 x2 x3 x4 x5 d0 d1 d2 d3 d4 d5 d6 d7 d8 p0 p1 p2 p3 p4 p5 p6 p7 p8 sc fo pe W' → Below W.heap.size W W' → K ((actOf v (rv (w.heap.size + 1) N G Pr x0 x1 x2 x3 x4 x5 d0 d1 d2 d3 d4 d5 d6 d7 d8 n0 n1 n2 n3 n4 n5 n6 n7 n8 p0 p1 p2 p3 p4 p5 p6 p7 p8 sc fo pe) l p).put (some 141) (.pointer (some ⟨w.heap.size + 1, 24, none⟩))) W') : o.wp Ybad.prog (actOf v (rv (w.heap.size + 1) N G Pr x0 x1 x2 x3 x4 x5 d0 d1 d2 d3 d4 d5 d6 d7 d8 n0 n1 n2 n3 n4 n5 n6 n7 n8 p0 p1 p2 p3 p4 p5 p6 p7 p8 sc fo pe) l p) W K Q := by
  obtain ⟨ht1, ht2, ht3⟩ := tab_spec (i := 75) rfl rfl ho
  have hdp := dep_chk ht3 hd
  have e5 := actOf_five' v (rv (w.heap.size + 1) N G Pr x0 x1 x2 x3 x4 x5 d0 d1 d2 d3 d4 d5 d6 d7 d8 n0 n1 n2 n3 n4 n5 n6 n7 n8 p0 p1 p2 p3 p4 p5 p6 p7 p8 sc fo pe) l p
  rw [hv] at e5
  clear hv

  clear hdp hd ho ht3
  generalize actOf v (rv (w.heap.size + 1) N G Pr x0 x1 x2 x3 x4 x5 d0 d1 d2 d3 d4 d5 d6 d7 d8 n0 n1 n2 n3 n4 n5 n6 n7 n8 p0 p1 p2 p3 p4 p5 p6 p7 p8 sc fo pe) l p = a at *
  obtain ⟨odst, oop, oty, opos, oaft, og⟩ := o
  obtain rfl : odst = some 141 := ht1
  obtain rfl : oop = .fieldAddr 33 (.tmp 5) 8 := ht2
  have hK1 := hK W hS (Below.refl _ _)
  clear hK
  unfold Oper.wp execOp
  go_simp
  exact hK1
set_option maxHeartbeats 1000000 in
theorem op142 {w wr : World} {A : Nat → Value} {ec : List Value} {N G Pr x0 x1 x2 x3 x4 x5 d0 d1 d2 d3 d4 d5 d6 d7 d8 p0 p1 p2 p3 p4 p5 p6 p7 p8 : Int} {n0 n1 n2 n3 n4 n5 n6 n7 n8 : Nat} {sc fo pe : Bool} (v : Nat → Value) (l : Array Bool) (p : Nat) (W : World) (Q : Exit → Act → World → Prop) (K : Act → World → Prop) (o : Oper) (ho : opsR[76]? = some o) (hd : ∀ e ∈ o.after, Region.binds .any e = true → l.getD e.on false = true)
    (hS : EvS w wr A ec N G Pr x0 x1 x2 x3 x4 x5 d0 d1 d2 d3 d4 d5 d6 d7 d8 p0 p1 p2 p3 p4 p5 p6 p7 p8 sc fo pe W) (hK : ∀ W', EvS w wr A ec N G Pr x0 x1 x2 x3 x4 x5 d0 d1 d2 d3 d4 d5 d6 d7 d8 p0 p1 p2 p3 p4 p5 p6 p7 p8 sc fo pe W' → Below W.heap.size W W' → K ((actOf v (rv (w.heap.size + 1) N G Pr x0 x1 x2 x3 x4 x5 d0 d1 d2 d3 d4 d5 d6 d7 d8 n0 n1 n2 n3 n4 n5 n6 n7 n8 p0 p1 p2 p3 p4 p5 p6 p7 p8 sc fo pe) l p).put (some 142) (.int .i64 x3)) W') : o.wp Ybad.prog (actOf v (rv (w.heap.size + 1) N G Pr x0 x1 x2 x3 x4 x5 d0 d1 d2 d3 d4 d5 d6 d7 d8 n0 n1 n2 n3 n4 n5 n6 n7 n8 p0 p1 p2 p3 p4 p5 p6 p7 p8 sc fo pe) l p) W K Q := by
  obtain ⟨ht1, ht2, ht3⟩ := tab_spec (i := 76) rfl rfl ho
  have hdp := dep_chk ht3 hd
  have h141 : (actOf v (rv (w.heap.size + 1) N G Pr x0 x1 x2 x3 x4 x5 d0 d1 d2 d3 d4 d5 d6 d7 d8 n0 n1 n2 n3 n4 n5 n6 n7 n8 p0 p1 p2 p3 p4 p5 p6 p7 p8 sc fo pe) l p).tmps[141]? = some (.pointer (some ⟨w.heap.size + 1, 24, none⟩)) := actOf_dep' v _ l p 141 _ (by omega) (by omega) (hdp 75 (by simp)) rfl
  clear hdp hd ho ht3
  generalize actOf v (rv (w.heap.size + 1) N G Pr x0 x1 x2 x3 x4 x5 d0 d1 d2 d3 d4 d5 d6 d7 d8 n0 n1 n2 n3 n4 n5 n6 n7 n8 p0 p1 p2 p3 p4 p5 p6 p7 p8 sc fo pe) l p = a at *
  obtain ⟨odst, oop, oty, opos, oaft, og⟩ := o
  obtain rfl : odst = some 142 := ht1
  obtain rfl : oop = .load 3 (.tmp 141) := ht2
  have hK1 := hK W hS (Below.refl _ _)
  have hc : W.cell? ⟨w.heap.size + 1, 24, none⟩ = some (.int .i64 x3) := hS.2.2.2.2.2.2.2.2.2.2.2.2.2.2.2.2.2.2.2.2.2.2.2.2.1
  clear hK
  unfold Oper.wp execOp
  go_simp
  exact hK1
set_option maxHeartbeats 1000000 in
theorem op143 {w wr : World} {A : Nat → Value} {ec : List Value} {N G Pr x0 x1 x2 x3 x4 x5 d0 d1 d2 d3 d4 d5 d6 d7 d8 p0 p1 p2 p3 p4 p5 p6 p7 p8 : Int} {n0 n1 n2 n3 n4 n5 n6 n7 n8 : Nat} {sc fo pe : Bool} (v : Nat → Value) (hv : v 5 = .pointer (some ⟨w.heap.size + 1, 0, none⟩)) (l : Array Bool) (p : Nat) (W : World) (Q : Exit → Act → World → Prop) (K : Act → World → Prop) (o : Oper) (ho : opsR[77]? = some o) (hd : ∀ e ∈ o.after, Region.binds .any e = true → l.getD e.on false = true)
    (hS : EvS w wr A ec N G Pr x0 x1 x2 x3 x4 x5 d0 d1 d2 d3 d4 d5 d6 d7 d8 p0 p1 p2 p3 p4 p5 p6 p7 p8 sc fo pe W) (hK : ∀ W', EvS w wr A ec N G Pr x0 x1 x2 x3 x4 x5 d0 d1 d2 d3 d4 d5 d6 d7 d8 p0 p1 p2 p3 p4 p5 p6 p7 p8 sc fo pe W' → Below W.heap.size W W' → K ((actOf v (rv (w.heap.size + 1) N G Pr x0 x1 x2 x3 x4 x5 d0 d1 d2 d3 d4 d5 d6 d7 d8 n0 n1 n2 n3 n4 n5 n6 n7 n8 p0 p1 p2 p3 p4 p5 p6 p7 p8 sc fo pe) l p).put (some 143) (.pointer (some ⟨w.heap.size + 1, 25, none⟩))) W') : o.wp Ybad.prog (actOf v (rv (w.heap.size + 1) N G Pr x0 x1 x2 x3 x4 x5 d0 d1 d2 d3 d4 d5 d6 d7 d8 n0 n1 n2 n3 n4 n5 n6 n7 n8 p0 p1 p2 p3 p4 p5 p6 p7 p8 sc fo pe) l p) W K Q := by
  obtain ⟨ht1, ht2, ht3⟩ := tab_spec (i := 77) rfl rfl ho
  have hdp := dep_chk ht3 hd
  have e5 := actOf_five' v (rv (w.heap.size + 1) N G Pr x0 x1 x2 x3 x4 x5 d0 d1 d2 d3 d4 d5 d6 d7 d8 n0 n1 n2 n3 n4 n5 n6 n7 n8 p0 p1 p2 p3 p4 p5 p6 p7 p8 sc fo pe) l p
  rw [hv] at e5
  clear hv

  clear hdp hd ho ht3
  generalize actOf v (rv (w.heap.size + 1) N G Pr x0 x1 x2 x3 x4 x5 d0 d1 d2 d3 d4 d5 d6 d7 d8 n0 n1 n2 n3 n4 n5 n6 n7 n8 p0 p1 p2 p3 p4 p5 p6 p7 p8 sc fo pe) l p = a at *
  obtain ⟨odst, oop, oty, opos, oaft, og⟩ := o
  obtain rfl : odst = some 143 := ht1
  obtain rfl : oop = .fieldAddr 33 (.tmp 5) 9 := ht2
  have hK1 := hK W hS (Below.refl _ _)
  clear hK
  unfold Oper.wp execOp
  go_simp
  exact hK1
set_option maxHeartbeats 1000000 in
theorem op144 {w wr : World} {A : Nat → Value} {ec : List Value} {N G Pr x0 x1 x2 x3 x4 x5 d0 d1 d2 d3 d4 d5 d6 d7 d8 p0 p1 p2 p3 p4 p5 p6 p7 p8 : Int} {n0 n1 n2 n3 n4 n5 n6 n7 n8 : Nat} {sc fo pe : Bool} (v : Nat → Value) (l : Array Bool) (p : Nat) (W : World) (Q : Exit → Act → World → Prop) (K : Act → World → Prop) (o : Oper) (ho : opsR[78]? = some o) (hd : ∀ e ∈ o.after, Region.binds .any e = true → l.getD e.on false = true)
    (hS : EvS w wr A ec N G Pr x0 x1 x2 x3 x4 x5 d0 d1 d2 d3 d4 d5 d6 d7 d8 p0 p1 p2 p3 p4 p5 p6 p7 p8 sc fo pe W) (hK : ∀ W', EvS w wr A ec N G Pr x0 x1 x2 x3 x4 x5 d0 d1 d2 d3 d4 d5 d6 d7 d8 p0 p1 p2 p3 p4 p5 p6 p7 p8 sc fo pe W' → Below W.heap.size W W' → K ((actOf v (rv (w.heap.size + 1) N G Pr x0 x1 x2 x3 x4 x5 d0 d1 d2 d3 d4 d5 d6 d7 d8 n0 n1 n2 n3 n4 n5 n6 n7 n8 p0 p1 p2 p3 p4 p5 p6 p7 p8 sc fo pe) l p).put (some 144) (.int .i64 x4)) W') : o.wp Ybad.prog (actOf v (rv (w.heap.size + 1) N G Pr x0 x1 x2 x3 x4 x5 d0 d1 d2 d3 d4 d5 d6 d7 d8 n0 n1 n2 n3 n4 n5 n6 n7 n8 p0 p1 p2 p3 p4 p5 p6 p7 p8 sc fo pe) l p) W K Q := by
  obtain ⟨ht1, ht2, ht3⟩ := tab_spec (i := 78) rfl rfl ho
  have hdp := dep_chk ht3 hd
  have h143 : (actOf v (rv (w.heap.size + 1) N G Pr x0 x1 x2 x3 x4 x5 d0 d1 d2 d3 d4 d5 d6 d7 d8 n0 n1 n2 n3 n4 n5 n6 n7 n8 p0 p1 p2 p3 p4 p5 p6 p7 p8 sc fo pe) l p).tmps[143]? = some (.pointer (some ⟨w.heap.size + 1, 25, none⟩)) := actOf_dep' v _ l p 143 _ (by omega) (by omega) (hdp 77 (by simp)) rfl
  clear hdp hd ho ht3
  generalize actOf v (rv (w.heap.size + 1) N G Pr x0 x1 x2 x3 x4 x5 d0 d1 d2 d3 d4 d5 d6 d7 d8 n0 n1 n2 n3 n4 n5 n6 n7 n8 p0 p1 p2 p3 p4 p5 p6 p7 p8 sc fo pe) l p = a at *
  obtain ⟨odst, oop, oty, opos, oaft, og⟩ := o
  obtain rfl : odst = some 144 := ht1
  obtain rfl : oop = .load 3 (.tmp 143) := ht2
  have hK1 := hK W hS (Below.refl _ _)
  have hc : W.cell? ⟨w.heap.size + 1, 25, none⟩ = some (.int .i64 x4) := hS.2.2.2.2.2.2.2.2.2.2.2.2.2.2.2.2.2.2.2.2.2.2.2.2.2.1
  clear hK
  unfold Oper.wp execOp
  go_simp
  exact hK1
set_option maxHeartbeats 1000000 in
theorem op145 {w wr : World} {A : Nat → Value} {ec : List Value} {N G Pr x0 x1 x2 x3 x4 x5 d0 d1 d2 d3 d4 d5 d6 d7 d8 p0 p1 p2 p3 p4 p5 p6 p7 p8 : Int} {n0 n1 n2 n3 n4 n5 n6 n7 n8 : Nat} {sc fo pe : Bool} (v : Nat → Value) (hv : v 5 = .pointer (some ⟨w.heap.size + 1, 0, none⟩)) (l : Array Bool) (p : Nat) (W : World) (Q : Exit → Act → World → Prop) (K : Act → World → Prop) (o : Oper) (ho : opsR[79]? = some o) (hd : ∀ e ∈ o.after, Region.binds .any e = true → l.getD e.on false = true)
    (hS : EvS w wr A ec N G Pr x0 x1 x2 x3 x4 x5 d0 d1 d2 d3 d4 d5 d6 d7 d8 p0 p1 p2 p3 p4 p5 p6 p7 p8 sc fo pe W) (hK : ∀ W', EvS w wr A ec N G Pr x0 x1 x2 x3 x4 x5 d0 d1 d2 d3 d4 d5 d6 d7 d8 p0 p1 p2 p3 p4 p5 p6 p7 p8 sc fo pe W' → Below W.heap.size W W' → K ((actOf v (rv (w.heap.size + 1) N G Pr x0 x1 x2 x3 x4 x5 d0 d1 d2 d3 d4 d5 d6 d7 d8 n0 n1 n2 n3 n4 n5 n6 n7 n8 p0 p1 p2 p3 p4 p5 p6 p7 p8 sc fo pe) l p).put (some 145) (.pointer (some ⟨w.heap.size + 1, 26, none⟩))) W') : o.wp Ybad.prog (actOf v (rv (w.heap.size + 1) N G Pr x0 x1 x2 x3 x4 x5 d0 d1 d2 d3 d4 d5 d6 d7 d8 n0 n1 n2 n3 n4 n5 n6 n7 n8 p0 p1 p2 p3 p4 p5 p6 p7 p8 sc fo pe) l p) W K Q := by
  obtain ⟨ht1, ht2, ht3⟩ := tab_spec (i := 79) rfl rfl ho
  have hdp := dep_chk ht3 hd
  have e5 := actOf_five' v (rv (w.heap.size + 1) N G Pr x0 x1 x2 x3 x4 x5 d0 d1 d2 d3 d4 d5 d6 d7 d8 n0 n1 n2 n3 n4 n5 n6 n7 n8 p0 p1 p2 p3 p4 p5 p6 p7 p8 sc fo pe) l p
  rw [hv] at e5
  clear hv

  clear hdp hd ho ht3
  generalize actOf v (rv (w.heap.size + 1) N G Pr x0 x1 x2 x3 x4 x5 d0 d1 d2 d3 d4 d5 d6 d7 d8 n0 n1 n2 n3 n4 n5 n6 n7 n8 p0 p1 p2 p3 p4 p5 p6 p7 p8 sc fo pe) l p = a at *
  obtain ⟨odst, oop, oty, opos, oaft, og⟩ := o
  obtain rfl : odst = some 145 := ht1
  obtain rfl : oop = .fieldAddr 33 (.tmp 5) 10 := ht2
  have hK1 := hK W hS (Below.refl _ _)
  clear hK
  unfold Oper.wp execOp
  go_simp
  exact hK1
set_option maxHeartbeats 1000000 in
theorem op146 {w wr : World} {A : Nat → Value} {ec : List Value} {N G Pr x0 x1 x2 x3 x4 x5 d0 d1 d2 d3 d4 d5 d6 d7 d8 p0 p1 p2 p3 p4 p5 p6 p7 p8 : Int} {n0 n1 n2 n3 n4 n5 n6 n7 n8 : Nat} {sc fo pe : Bool} (v : Nat → Value) (l : Array Bool) (p : Nat) (W : World) (Q : Exit → Act → World → Prop) (K : Act → World → Prop) (o : Oper) (ho : opsR[80]? = some o) (hd : ∀ e ∈ o.after, Region.binds .any e = true → l.getD e.on false = true)
    (hS : EvS w wr A ec N G Pr x0 x1 x2 x3 x4 x5 d0 d1 d2 d3 d4 d5 d6 d7 d8 p0 p1 p2 p3 p4 p5 p6 p7 p8 sc fo pe W) (hK : ∀ W', EvS w wr A ec N G Pr x0 x1 x2 x3 x4 x5 d0 d1 d2 d3 d4 d5 d6 d7 d8 p0 p1 p2 p3 p4 p5 p6 p7 p8 sc fo pe W' → Below W.heap.size W W' → K ((actOf v (rv (w.heap.size + 1) N G Pr x0 x1 x2 x3 x4 x5 d0 d1 d2 d3 d4 d5 d6 d7 d8 n0 n1 n2 n3 n4 n5 n6 n7 n8 p0 p1 p2 p3 p4 p5 p6 p7 p8 sc fo pe) l p).put (some 146) (.int .i64 x5)) W') : o.wp Ybad.prog (actOf v (rv (w.heap.size + 1) N G Pr x0 x1 x2 x3 x4 x5 d0 d1 d2 d3 d4 d5 d6 d7 d8 n0 n1 n2 n3 n4 n5 n6 n7 n8 p0 p1 p2 p3 p4 p5 p6 p7 p8 sc fo pe) l p) W K Q := by
  obtain ⟨ht1, ht2, ht3⟩ := tab_spec (i := 80) rfl rfl ho
  have hdp := dep_chk ht3 hd
  have h145 : (actOf v (rv (w.heap.size + 1) N G Pr x0 x1 x2 x3 x4 x5 d0 d1 d2 d3 d4 d5 d6 d7 d8 n0 n1 n2 n3 n4 n5 n6 n7 n8 p0 p1 p2 p3 p4 p5 p6 p7 p8 sc fo pe) l p).tmps[145]? = some (.pointer (some ⟨w.heap.size + 1, 26, none⟩)) := actOf_dep' v _ l p 145 _ (by omega) (by omega) (hdp 79 (by simp)) rfl
  clear hdp hd ho ht3
  generalize actOf v (rv (w.heap.size + 1) N G Pr x0 x1 x2 x3 x4 x5 d0 d1 d2 d3 d4 d5 d6 d7 d8 n0 n1 n2 n3 n4 n5 n6 n7 n8 p0 p1 p2 p3 p4 p5 p6 p7 p8 sc fo pe) l p = a at *
  obtain ⟨odst, oop, oty, opos, oaft, og⟩ := o
  obtain rfl : odst = some 146 := ht1
  obtain rfl : oop = .load 3 (.tmp 145) := ht2
  have hK1 := hK W hS (Below.refl _ _)
  have hc : W.cell? ⟨w.heap.size + 1, 26, none⟩ = some (.int .i64 x5) := hS.2.2.2.2.2.2.2.2.2.2.2.2.2.2.2.2.2.2.2.2.2.2.2.2.2.2.1
  clear hK
  unfold Oper.wp execOp
  go_simp
  exact hK1
set_option maxHeartbeats 1000000 in
theorem op147 {w wr : World} {A : Nat → Value} {ec : List Value} {N G Pr x0 x1 x2 x3 x4 x5 d0 d1 d2 d3 d4 d5 d6 d7 d8 p0 p1 p2 p3 p4 p5 p6 p7 p8 : Int} {n0 n1 n2 n3 n4 n5 n6 n7 n8 : Nat} {sc fo pe : Bool} (v : Nat → Value) (hv : v 5 = .pointer (some ⟨w.heap.size + 1, 0, none⟩)) (l : Array Bool) (p : Nat) (W : World) (Q : Exit → Act → World → Prop) (K : Act → World → Prop) (o : Oper) (ho : opsR[81]? = some o) (hd : ∀ e ∈ o.after, Region.binds .any e = true → l.getD e.on false = true)
    (hS : EvS w wr A ec N G Pr x0 x1 x2 x3 x4 x5 d0 d1 d2 d3 d4 d5 d6 d7 d8 p0 p1 p2 p3 p4 p5 p6 p7 p8 sc fo pe W) (hK : ∀ W', EvS w wr A ec N G Pr x0 x1 x2 x3 x4 x5 d0 d1 d2 d3 d4 d5 d6 d7 d8 p0 p1 p2 p3 p4 p5 p6 p7 p8 sc fo pe W' → Below W.heap.size W W' → K ((actOf v (rv (w.heap.size + 1) N G Pr x0 x1 x2 x3 x4 x5 d0 d1 d2 d3 d4 d5 d6 d7 d8 n0 n1 n2 n3 n4 n5 n6 n7 n8 p0 p1 p2 p3 p4 p5 p6 p7 p8 sc fo pe) l p).put (some 147) (.pointer (some ⟨w.heap.size + 1, 27, none⟩))) W') : o.wp Ybad.prog (actOf v (rv (w.heap.size + 1) N G Pr x0 x1 x2 x3 x4 x5 d0 d1 d2 d3 d4 d5 d6 d7 d8 n0 n1 n2 n3 n4 n5 n6 n7 n8 p0 p1 p2 p3 p4 p5 p6 p7 p8 sc fo pe) l p) W K Q := by
  obtain ⟨ht1, ht2, ht3⟩ := tab_spec (i := 81) rfl rfl ho
  have hdp := dep_chk ht3 hd
  have e5 := actOf_five' v (rv (w.heap.size + 1) N G Pr x0 x1 x2 x3 x4 x5 d0 d1 d2 d3 d4 d5 d6 d7 d8 n0 n1 n2 n3 n4 n5 n6 n7 n8 p0 p1 p2 p3 p4 p5 p6 p7 p8 sc fo pe) l p
  rw [hv] at e5
  clear hv

  clear hdp hd ho ht3
  generalize actOf v (rv (w.heap.size + 1) N G Pr x0 x1 x2 x3 x4 x5 d0 d1 d2 d3 d4 d5 d6 d7 d8 n0 n1 n2 n3 n4 n5 n6 n7 n8 p0 p1 p2 p3 p4 p5 p6 p7 p8 sc fo pe) l p = a at *
  obtain ⟨odst, oop, oty, opos, oaft, og⟩ := o
  obtain rfl : odst = some 147 := ht1
  obtain rfl : oop = .fieldAddr 33 (.tmp 5) 11 := ht2
  have hK1 := hK W hS (Below.refl _ _)
  clear hK
  unfold Oper.wp execOp
  go_simp
  exact hK1
set_option maxHeartbeats 1000000 in
theorem op148 {w wr : World} {A : Nat → Value} {ec : List Value} {N G Pr x0 x1 x2 x3 x4 x5 d0 d1 d2 d3 d4 d5 d6 d7 d8 p0 p1 p2 p3 p4 p5 p6 p7 p8 : Int} {n0 n1 n2 n3 n4 n5 n6 n7 n8 : Nat} {sc fo pe : Bool} (v : Nat → Value) (l : Array Bool) (p : Nat) (W : World) (Q : Exit → Act → World → Prop) (K : Act → World → Prop) (o : Oper) (ho : opsR[82]? = some o) (hd : ∀ e ∈ o.after, Region.binds .any e = true → l.getD e.on false = true)
    (hS : EvS w wr A ec N G Pr x0 x1 x2 x3 x4 x5 d0 d1 d2 d3 d4 d5 d6 d7 d8 p0 p1 p2 p3 p4 p5 p6 p7 p8 sc fo pe W) (hK : ∀ W', EvS w wr A ec N G Pr x0 x1 x2 x3 x4 x5 d0 d1 d2 d3 d4 d5 d6 d7 d8 p0 p1 p2 p3 p4 p5 p6 p7 p8 sc fo pe W' → Below W.heap.size W W' → K ((actOf v (rv (w.heap.size + 1) N G Pr x0 x1 x2 x3 x4 x5 d0 d1 d2 d3 d4 d5 d6 d7 d8 n0 n1 n2 n3 n4 n5 n6 n7 n8 p0 p1 p2 p3 p4 p5 p6 p7 p8 sc fo pe) l p).put (some 148) (.bool sc)) W') : o.wp Ybad.prog (actOf v (rv (w.heap.size + 1) N G Pr x0 x1 x2 x3 x4 x5 d0 d1 d2 d3 d4 d5 d6 d7 d8 n0 n1 n2 n3 n4 n5 n6 n7 n8 p0 p1 p2 p3 p4 p5 p6 p7 p8 sc fo pe) l p) W K Q := by
  obtain ⟨ht1, ht2, ht3⟩ := tab_spec (i := 82) rfl rfl ho
  have hdp := dep_chk ht3 hd
  have h147 : (actOf v (rv (w.heap.size + 1) N G Pr x0 x1 x2 x3 x4 x5 d0 d1 d2 d3 d4 d5 d6 d7 d8 n0 n1 n2 n3 n4 n5 n6 n7 n8 p0 p1 p2 p3 p4 p5 p6 p7 p8 sc fo pe) l p).tmps[147]? = some (.pointer (some ⟨w.heap.size + 1, 27, none⟩)) := actOf_dep' v _ l p 147 _ (by omega) (by omega) (hdp 81 (by simp)) rfl
  clear hdp hd ho ht3
  generalize actOf v (rv (w.heap.size + 1) N G Pr x0 x1 x2 x3 x4 x5 d0 d1 d2 d3 d4 d5 d6 d7 d8 n0 n1 n2 n3 n4 n5 n6 n7 n8 p0 p1 p2 p3 p4 p5 p6 p7 p8 sc fo pe) l p = a at *
  obtain ⟨odst, oop, oty, opos, oaft, og⟩ := o
  obtain rfl : odst = some 148 := ht1
  obtain rfl : oop = .load 4 (.tmp 147) := ht2
  have hK1 := hK W hS (Below.refl _ _)
  have hc : W.cell? ⟨w.heap.size + 1, 27, none⟩ = some (.bool sc) := hS.2.2.2.2.2.2.2.2.2.2.2.2.2.2.2.2.2.2.2.2.2.2.2.2.2.2.2.1
  clear hK
  unfold Oper.wp execOp
  go_simp
  exact hK1
set_option maxHeartbeats 1000000 in
theorem op149 {w wr : World} {A : Nat → Value} {ec : List Value} {N G Pr x0 x1 x2 x3 x4 x5 d0 d1 d2 d3 d4 d5 d6 d7 d8 p0 p1 p2 p3 p4 p5 p6 p7 p8 : Int} {n0 n1 n2 n3 n4 n5 n6 n7 n8 : Nat} {sc fo pe : Bool} (v : Nat → Value) (l : Array Bool) (p : Nat) (W : World) (Q : Exit → Act → World → Prop) (K : Act → World → Prop) (o : Oper) (ho : opsR[83]? = some o) (hd : ∀ e ∈ o.after, Region.binds .any e = true → l.getD e.on false = true)
    (hS : EvS w wr A ec N G Pr x0 x1 x2 x3 x4 x5 d0 d1 d2 d3 d4 d5 d6 d7 d8 p0 p1 p2 p3 p4 p5 p6 p7 p8 sc fo pe W) (hK : ∀ W', EvS w wr A ec N G Pr x0 x1 x2 x3 x4 x5 d0 d1 d2 d3 d4 d5 d6 d7 d8 p0 p1 p2 p3 p4 p5 p6 p7 p8 sc fo pe W' → Below W.heap.size W W' → K ((actOf v (rv (w.heap.size + 1) N G Pr x0 x1 x2 x3 x4 x5 d0 d1 d2 d3 d4 d5 d6 d7 d8 n0 n1 n2 n3 n4 n5 n6 n7 n8 p0 p1 p2 p3 p4 p5 p6 p7 p8 sc fo pe) l p).put (some 149) (.agg #[.int .i64 x0, .int .i64 x1, .int .i64 x2, .int .i64 x3, .int .i64 x4, .int .i64 x5, .bool sc])) W') : o.wp Ybad.prog (actOf v (rv (w.heap.size + 1) N G Pr x0 x1 x2 x3 x4 x5 d0 d1 d2 d3 d4 d5 d6 d7 d8 n0 n1 n2 n3 n4 n5 n6 n7 n8 p0 p1 p2 p3 p4 p5 p6 p7 p8 sc fo pe) l p) W K Q := by
  obtain ⟨ht1, ht2, ht3⟩ := tab_spec (i := 83) rfl rfl ho
  have hdp := dep_chk ht3 hd
  have h136 : (actOf v (rv (w.heap.size + 1) N G Pr x0 x1 x2 x3 x4 x5 d0 d1 d2 d3 d4 d5 d6 d7 d8 n0 n1 n2 n3 n4 n5 n6 n7 n8 p0 p1 p2 p3 p4 p5 p6 p7 p8 sc fo pe) l p).tmps[136]? = some (.int .i64 x0) := actOf_dep' v _ l p 136 _ (by omega) (by omega) (hdp 70 (by simp)) rfl
  have h138 : (actOf v (rv (w.heap.size + 1) N G Pr x0 x1 x2 x3 x4 x5 d0 d1 d2 d3 d4 d5 d6 d7 d8 n0 n1 n2 n3 n4 n5 n6 n7 n8 p0 p1 p2 p3 p4 p5 p6 p7 p8 sc fo pe) l p).tmps[138]? = some (.int .i64 x1) := actOf_dep' v _ l p 138 _ (by omega) (by omega) (hdp 72 (by simp)) rfl
  have h140 : (actOf v (rv (w.heap.size + 1) N G Pr x0 x1 x2 x3 x4 x5 d0 d1 d2 d3 d4 d5 d6 d7 d8 n0 n1 n2 n3 n4 n5 n6 n7 n8 p0 p1 p2 p3 p4 p5 p6 p7 p8 sc fo pe) l p).tmps[140]? = some (.int .i64 x2) := actOf_dep' v _ l p 140 _ (by omega) (by omega) (hdp 74 (by simp)) rfl
  have h142 : (actOf v (rv (w.heap.size + 1) N G Pr x0 x1 x2 x3 x4 x5 d0 d1 d2 d3 d4 d5 d6 d7 d8 n0 n1 n2 n3 n4 n5 n6 n7 n8 p0 p1 p2 p3 p4 p5 p6 p7 p8 sc fo pe) l p).tmps[142]? = some (.int .i64 x3) := actOf_dep' v _ l p 142 _ (by omega) (by omega) (hdp 76 (by simp)) rfl
  have h144 : (actOf v (rv (w.heap.size + 1) N G Pr x0 x1 x2 x3 x4 x5 d0 d1 d2 d3 d4 d5 d6 d7 d8 n0 n1 n2 n3 n4 n5 n6 n7 n8 p0 p1 p2 p3 p4 p5 p6 p7 p8 sc fo pe) l p).tmps[144]? = some (.int .i64 x4) := actOf_dep' v _ l p 144 _ (by omega) (by omega) (hdp 78 (by simp)) rfl
  have h146 : (actOf v (rv (w.heap.size + 1) N G Pr x0 x1 x2 x3 x4 x5 d0 d1 d2 d3 d4 d5 d6 d7 d8 n0 n1 n2 n3 n4 n5 n6 n7 n8 p0 p1 p2 p3 p4 p5 p6 p7 p8 sc fo pe) l p).tmps[146]? = some (.int .i64 x5) := actOf_dep' v _ l p 146 _ (by omega) (by omega) (hdp 80 (by simp)) rfl
  have h148 : (actOf v (rv (w.heap.size + 1) N G Pr x0 x1 x2 x3 x4 x5 d0 d1 d2 d3 d4 d5 d6 d7 d8 n0 n1 n2 n3 n4 n5 n6 n7 n8 p0 p1 p2 p3 p4 p5 p6 p7 p8 sc fo pe) l p).tmps[148]? = some (.bool sc) := actOf_dep' v _ l p 148 _ (by omega) (by omega) (hdp 82 (by simp)) rfl
  clear hdp hd ho ht3
  generalize actOf v (rv (w.heap.size + 1) N G Pr x0 x1 x2 x3 x4 x5 d0 d1 d2 d3 d4 d5 d6 d7 d8 n0 n1 n2 n3 n4 n5 n6 n7 n8 p0 p1 p2 p3 p4 p5 p6 p7 p8 sc fo pe) l p = a at *
  obtain ⟨odst, oop, oty, opos, oaft, og⟩ := o
  obtain rfl : odst = some 149 := ht1
  obtain rfl : oop = .build 48 #[(0, .tmp 136), (1, .tmp 138), (2, .tmp 140), (3, .tmp 142), (4, .tmp 144), (5, .tmp 146), (6, .tmp 148)] := ht2
  have hK1 := hK W hS (Below.refl _ _)
  clear hK
  unfold Oper.wp execOp
  go_simp
  exact hK1
set_option maxHeartbeats 1000000 in
theorem op150 {w wr : World} {A : Nat → Value} {ec : List Value} {N G Pr x0 x1 x2 x3 x4 x5 d0 d1 d2 d3 d4 d5 d6 d7 d8 p0 p1 p2 p3 p4 p5 p6 p7 p8 : Int} {n0 n1 n2 n3 n4 n5 n6 n7 n8 : Nat} {sc fo pe : Bool} (v : Nat → Value) (hv : v 5 = .pointer (some ⟨w.heap.size + 1, 0, none⟩)) (l : Array Bool) (p : Nat) (W : World) (Q : Exit → Act → World → Prop) (K : Act → World → Prop) (o : Oper) (ho : opsR[84]? = some o) (hd : ∀ e ∈ o.after, Region.binds .any e = true → l.getD e.on false = true)
    (hS : EvS w wr A ec N G Pr x0 x1 x2 x3 x4 x5 d0 d1 d2 d3 d4 d5 d6 d7 d8 p0 p1 p2 p3 p4 p5 p6 p7 p8 sc fo pe W) (hK : ∀ W', EvS w wr A ec N G Pr x0 x1 x2 x3 x4 x5 d0 d1 d2 d3 d4 d5 d6 d7 d8 p0 p1 p2 p3 p4 p5 p6 p7 p8 sc fo pe W' → Below W.heap.size W W' → K ((actOf v (rv (w.heap.size + 1) N G Pr x0 x1 x2 x3 x4 x5 d0 d1 d2 d3 d4 d5 d6 d7 d8 n0 n1 n2 n3 n4 n5 n6 n7 n8 p0 p1 p2 p3 p4 p5 p6 p7 p8 sc fo pe) l p).put (some 150) (.pointer (some ⟨w.heap.size + 1, 2, none⟩))) W') : o.wp Ybad.prog (actOf v (rv (w.heap.size + 1) N G Pr x0 x1 x2 x3 x4 x5 d0 d1 d2 d3 d4 d5 d6 d7 d8 n0 n1 n2 n3 n4 n5 n6 n7 n8 p0 p1 p2 p3 p4 p5 p6 p7 p8 sc fo pe) l p) W K Q := by
  obtain ⟨ht1, ht2, ht3⟩ := tab_spec (i := 84) rfl rfl ho
  have hdp := dep_chk ht3 hd
  have e5 := actOf_five' v (rv (w.heap.size + 1) N G Pr x0 x1 x2 x3 x4 x5 d0 d1 d2 d3 d4 d5 d6 d7 d8 n0 n1 n2 n3 n4 n5 n6 n7 n8 p0 p1 p2 p3 p4 p5 p6 p7 p8 sc fo pe) l p
  rw [hv] at e5
  clear hv

  clear hdp hd ho ht3
  generalize actOf v (rv (w.heap.size + 1) N G Pr x0 x1 x2 x3 x4 x5 d0 d1 d2 d3 d4 d5 d6 d7 d8 n0 n1 n2 n3 n4 n5 n6 n7 n8 p0 p1 p2 p3 p4 p5 p6 p7 p8 sc fo pe) l p = a at *
  obtain ⟨odst, oop, oty, opos, oaft, og⟩ := o
  obtain rfl : odst = some 150 := ht1
  obtain rfl : oop = .fieldAddr 33 (.tmp 5) 2 := ht2
  have hK1 := hK W hS (Below.refl _ _)
  clear hK
  unfold Oper.wp execOp
  go_simp
  exact hK1
set_option maxHeartbeats 1000000 in
theorem op151 {w wr : World} {A : Nat → Value} {ec : List Value} {N G Pr x0 x1 x2 x3 x4 x5 d0 d1 d2 d3 d4 d5 d6 d7 d8 p0 p1 p2 p3 p4 p5 p6 p7 p8 : Int} {n0 n1 n2 n3 n4 n5 n6 n7 n8 : Nat} {sc fo pe : Bool} (v : Nat → Value) (l : Array Bool) (p : Nat) (W : World) (Q : Exit → Act → World → Prop) (K : Act → World → Prop) (o : Oper) (ho : opsR[85]? = some o) (hd : ∀ e ∈ o.after, Region.binds .any e = true → l.getD e.on false = true)
    (hS : EvS w wr A ec N G Pr x0 x1 x2 x3 x4 x5 d0 d1 d2 d3 d4 d5 d6 d7 d8 p0 p1 p2 p3 p4 p5 p6 p7 p8 sc fo pe W) (hK : ∀ W', EvS w wr A ec N G Pr x0 x1 x2 x3 x4 x5 d0 d1 d2 d3 d4 d5 d6 d7 d8 p0 p1 p2 p3 p4 p5 p6 p7 p8 sc fo pe W' → Below W.heap.size W W' → K ((actOf v (rv (w.heap.size + 1) N G Pr x0 x1 x2 x3 x4 x5 d0 d1 d2 d3 d4 d5 d6 d7 d8 n0 n1 n2 n3 n4 n5 n6 n7 n8 p0 p1 p2 p3 p4 p5 p6 p7 p8 sc fo pe) l p).put (some 151) (.int .i64 Pr)) W') : o.wp Ybad.prog (actOf v (rv (w.heap.size + 1) N G Pr x0 x1 x2 x3 x4 x5 d0 d1 d2 d3 d4 d5 d6 d7 d8 n0 n1 n2 n3 n4 n5 n6 n7 n8 p0 p1 p2 p3 p4 p5 p6 p7 p8 sc fo pe) l p) W K Q := by
  obtain ⟨ht1, ht2, ht3⟩ := tab_spec (i := 85) rfl rfl ho
  have hdp := dep_chk ht3 hd
  have h150 : (actOf v (rv (w.heap.size + 1) N G Pr x0 x1 x2 x3 x4 x5 d0 d1 d2 d3 d4 d5 d6 d7 d8 n0 n1 n2 n3 n4 n5 n6 n7 n8 p0 p1 p2 p3 p4 p5 p6 p7 p8 sc fo pe) l p).tmps[150]? = some (.pointer (some ⟨w.heap.size + 1, 2, none⟩)) := actOf_dep' v _ l p 150 _ (by omega) (by omega) (hdp 84 (by simp)) rfl
  clear hdp hd ho ht3
  generalize actOf v (rv (w.heap.size + 1) N G Pr x0 x1 x2 x3 x4 x5 d0 d1 d2 d3 d4 d5 d6 d7 d8 n0 n1 n2 n3 n4 n5 n6 n7 n8 p0 p1 p2 p3 p4 p5 p6 p7 p8 sc fo pe) l p = a at *
  obtain ⟨odst, oop, oty, opos, oaft, og⟩ := o
  obtain rfl : odst = some 151 := ht1
  obtain rfl : oop = .load 3 (.tmp 150) := ht2
  have hK1 := hK W hS (Below.refl _ _)
  have hc : W.cell? ⟨w.heap.size + 1, 2, none⟩ = some (.int .i64 Pr) := hS.2.2.1
  clear hK
  unfold Oper.wp execOp
  go_simp
  exact hK1
set_option maxHeartbeats 1000000 in
theorem op152 {w wr : World} {A : Nat → Value} {ec : List Value} {N G Pr x0 x1 x2 x3 x4 x5 d0 d1 d2 d3 d4 d5 d6 d7 d8 p0 p1 p2 p3 p4 p5 p6 p7 p8 : Int} {n0 n1 n2 n3 n4 n5 n6 n7 n8 : Nat} {sc fo pe : Bool} (v : Nat → Value) (hv : v 5 = .pointer (some ⟨w.heap.size + 1, 0, none⟩)) (l : Array Bool) (p : Nat) (W : World) (Q : Exit → Act → World → Prop) (K : Act → World → Prop) (o : Oper) (ho : opsR[86]? = some o) (hd : ∀ e ∈ o.after, Region.binds .any e = true → l.getD e.on false = true)
    (hS : EvS w wr A ec N G Pr x0 x1 x2 x3 x4 x5 d0 d1 d2 d3 d4 d5 d6 d7 d8 p0 p1 p2 p3 p4 p5 p6 p7 p8 sc fo pe W) (hK : ∀ W', EvS w wr A ec N G Pr x0 x1 x2 x3 x4 x5 d0 d1 d2 d3 d4 d5 d6 d7 d8 p0 p1 p2 p3 p4 p5 p6 p7 p8 sc fo pe W' → Below W.heap.size W W' → K ((actOf v (rv (w.heap.size + 1) N G Pr x0 x1 x2 x3 x4 x5 d0 d1 d2 d3 d4 d5 d6 d7 d8 n0 n1 n2 n3 n4 n5 n6 n7 n8 p0 p1 p2 p3 p4 p5 p6 p7 p8 sc fo pe) l p).put (some 152) (.pointer (some ⟨w.heap.size + 1, 28, none⟩))) W') : o.wp Ybad.prog (actOf v (rv (w.heap.size + 1) N G Pr x0 x1 x2 x3 x4 x5 d0 d1 d2 d3 d4 d5 d6 d7 d8 n0 n1 n2 n3 n4 n5 n6 n7 n8 p0 p1 p2 p3 p4 p5 p6 p7 p8 sc fo pe) l p) W K Q := by
  obtain ⟨ht1, ht2, ht3⟩ := tab_spec (i := 86) rfl rfl ho
  have hdp := dep_chk ht3 hd
  have e5 := actOf_five' v (rv (w.heap.size + 1) N G Pr x0 x1 x2 x3 x4 x5 d0 d1 d2 d3 d4 d5 d6 d7 d8 n0 n1 n2 n3 n4 n5 n6 n7 n8 p0 p1 p2 p3 p4 p5 p6 p7 p8 sc fo pe) l p
  rw [hv] at e5
  clear hv

  clear hdp hd ho ht3
  generalize actOf v (rv (w.heap.size + 1) N G Pr x0 x1 x2 x3 x4 x5 d0 d1 d2 d3 d4 d5 d6 d7 d8 n0 n1 n2 n3 n4 n5 n6 n7 n8 p0 p1 p2 p3 p4 p5 p6 p7 p8 sc fo pe) l p = a at *
  obtain ⟨odst, oop, oty, opos, oaft, og⟩ := o
  obtain rfl : odst = some 152 := ht1
  obtain rfl : oop = .fieldAddr 33 (.tmp 5) 12 := ht2
  have hK1 := hK W hS (Below.refl _ _)
  clear hK
  unfold Oper.wp execOp
  go_simp
  exact hK1
set_option maxHeartbeats 1000000 in
theorem op153 {w wr : World} {A : Nat → Value} {ec : List Value} {N G Pr x0 x1 x2 x3 x4 x5 d0 d1 d2 d3 d4 d5 d6 d7 d8 p0 p1 p2 p3 p4 p5 p6 p7 p8 : Int} {n0 n1 n2 n3 n4 n5 n6 n7 n8 : Nat} {sc fo pe : Bool} (v : Nat → Value) (l : Array Bool) (p : Nat) (W : World) (Q : Exit → Act → World → Prop) (K : Act → World → Prop) (o : Oper) (ho : opsR[87]? = some o) (hd : ∀ e ∈ o.after, Region.binds .any e = true → l.getD e.on false = true)
    (hS : EvS w wr A ec N G Pr x0 x1 x2 x3 x4 x5 d0 d1 d2 d3 d4 d5 d6 d7 d8 p0 p1 p2 p3 p4 p5 p6 p7 p8 sc fo pe W) (hK : ∀ W', EvS w wr A ec N G Pr x0 x1 x2 x3 x4 x5 d0 d1 d2 d3 d4 d5 d6 d7 d8 p0 p1 p2 p3 p4 p5 p6 p7 p8 sc fo pe W' → Below W.heap.size W W' → K ((actOf v (rv (w.heap.size + 1) N G Pr x0 x1 x2 x3 x4 x5 d0 d1 d2 d3 d4 d5 d6 d7 d8 n0 n1 n2 n3 n4 n5 n6 n7 n8 p0 p1 p2 p3 p4 p5 p6 p7 p8 sc fo pe) l p).put (some 153) (.bool fo)) W') : o.wp Ybad.prog (actOf v (rv (w.heap.size + 1) N G Pr x0 x1 x2 x3 x4 x5 d0 d1 d2 d3 d4 d5 d6 d7 d8 n0 n1 n2 n3 n4 n5 n6 n7 n8 p0 p1 p2 p3 p4 p5 p6 p7 p8 sc fo pe) l p) W K Q := by
  obtain ⟨ht1, ht2, ht3⟩ := tab_spec (i := 87) rfl rfl ho
  have hdp := dep_chk ht3 hd
  have h152 : (actOf v (rv (w.heap.size + 1) N G Pr x0 x1 x2 x3 x4 x5 d0 d1 d2 d3 d4 d5 d6 d7 d8 n0 n1 n2 n3 n4 n5 n6 n7 n8 p0 p1 p2 p3 p4 p5 p6 p7 p8 sc fo pe) l p).tmps[152]? = some (.pointer (some ⟨w.heap.size + 1, 28, none⟩)) := actOf_dep' v _ l p 152 _ (by omega) (by omega) (hdp 86 (by simp)) rfl
  clear hdp hd ho ht3
  generalize actOf v (rv (w.heap.size + 1) N G Pr x0 x1 x2 x3 x4 x5 d0 d1 d2 d3 d4 d5 d6 d7 d8 n0 n1 n2 n3 n4 n5 n6 n7 n8 p0 p1 p2 p3 p4 p5 p6 p7 p8 sc fo pe) l p = a at *
  obtain ⟨odst, oop, oty, opos, oaft, og⟩ := o
  obtain rfl : odst = some 153 := ht1
  obtain rfl : oop = .load 4 (.tmp 152) := ht2
  have hK1 := hK W hS (Below.refl _ _)
  have hc : W.cell? ⟨w.heap.size + 1, 28, none⟩ = some (.bool fo) := hS.2.2.2.2.2.2.2.2.2.2.2.2.2.2.2.2.2.2.2.2.2.2.2.2.2.2.2.2.1
  clear hK
  unfold Oper.wp execOp
  go_simp
  exact hK1
set_option maxHeartbeats 1000000 in
theorem op154 {w wr : World} {A : Nat → Value} {ec : List Value} {N G Pr x0 x1 x2 x3 x4 x5 d0 d1 d2 d3 d4 d5 d6 d7 d8 p0 p1 p2 p3 p4 p5 p6 p7 p8 : Int} {n0 n1 n2 n3 n4 n5 n6 n7 n8 : Nat} {sc fo pe : Bool} (v : Nat → Value) (hv : v 5 = .pointer (some ⟨w.heap.size + 1, 0, none⟩)) (l : Array Bool) (p : Nat) (W : World) (Q : Exit → Act → World → Prop) (K : Act → World → Prop) (o : Oper) (ho : opsR[88]? = some o) (hd : ∀ e ∈ o.after, Region.binds .any e = true → l.getD e.on false = true)
    (hS : EvS w wr A ec N G Pr x0 x1 x2 x3 x4 x5 d0 d1 d2 d3 d4 d5 d6 d7 d8 p0 p1 p2 p3 p4 p5 p6 p7 p8 sc fo pe W) (hK : ∀ W', EvS w wr A ec N G Pr x0 x1 x2 x3 x4 x5 d0 d1 d2 d3 d4 d5 d6 d7 d8 p0 p1 p2 p3 p4 p5 p6 p7 p8 sc fo pe W' → Below W.heap.size W W' → K ((actOf v (rv (w.heap.size + 1) N G Pr x0 x1 x2 x3 x4 x5 d0 d1 d2 d3 d4 d5 d6 d7 d8 n0 n1 n2 n3 n4 n5 n6 n7 n8 p0 p1 p2 p3 p4 p5 p6 p7 p8 sc fo pe) l p).put (some 154) (.pointer (some ⟨w.heap.size + 1, 29, none⟩))) W') : o.wp Ybad.prog (actOf v (rv (w.heap.size + 1) N G Pr x0 x1 x2 x3 x4 x5 d0 d1 d2 d3 d4 d5 d6 d7 d8 n0 n1 n2 n3 n4 n5 n6 n7 n8 p0 p1 p2 p3 p4 p5 p6 p7 p8 sc fo pe) l p) W K Q := by
  obtain ⟨ht1, ht2, ht3⟩ := tab_spec (i := 88) rfl rfl ho
  have hdp := dep_chk ht3 hd
  have e5 := actOf_five' v (rv (w.heap.size + 1) N G Pr x0 x1 x2 x3 x4 x5 d0 d1 d2 d3 d4 d5 d6 d7 d8 n0 n1 n2 n3 n4 n5 n6 n7 n8 p0 p1 p2 p3 p4 p5 p6 p7 p8 sc fo pe) l p
  rw [hv] at e5
  clear hv

  clear hdp hd ho ht3
  generalize actOf v (rv (w.heap.size + 1) N G Pr x0 x1 x2 x3 x4 x5 d0 d1 d2 d3 d4 d5 d6 d7 d8 n0 n1 n2 n3 n4 n5 n6 n7 n8 p0 p1 p2 p3 p4 p5 p6 p7 p8 sc fo pe) l p = a at *
  obtain ⟨odst, oop, oty, opos, oaft, og⟩ := o
  obtain rfl : odst = some 154 := ht1
  obtain rfl : oop = .fieldAddr 33 (.tmp 5) 13 := ht2
  have hK1 := hK W hS (Below.refl _ _)
  clear hK
  unfold Oper.wp execOp
  go_simp
  exact hK1
set_option maxHeartbeats 1000000 in
theorem op155 {w wr : World} {A : Nat → Value} {ec : List Value} {N G Pr x0 x1 x2 x3 x4 x5 d0 d1 d2 d3 d4 d5 d6 d7 d8 p0 p1 p2 p3 p4 p5 p6 p7 p8 : Int} {n0 n1 n2 n3 n4 n5 n6 n7 n8 : Nat} {sc fo pe : Bool} (v : Nat → Value) (l : Array Bool) (p : Nat) (W : World) (Q : Exit → Act → World → Prop) (K : Act → World → Prop) (o : Oper) (ho : opsR[89]? = some o) (hd : ∀ e ∈ o.after, Region.binds .any e = true → l.getD e.on false = true)
    (hS : EvS w wr A ec N G Pr x0 x1 x2 x3 x4 x5 d0 d1 d2 d3 d4 d5 d6 d7 d8 p0 p1 p2 p3 p4 p5 p6 p7 p8 sc fo pe W) (hK : ∀ W', EvS w wr A ec N G Pr x0 x1 x2 x3 x4 x5 d0 d1 d2 d3 d4 d5 d6 d7 d8 p0 p1 p2 p3 p4 p5 p6 p7 p8 sc fo pe W' → Below W.heap.size W W' → K ((actOf v (rv (w.heap.size + 1) N G Pr x0 x1 x2 x3 x4 x5 d0 d1 d2 d3 d4 d5 d6 d7 d8 n0 n1 n2 n3 n4 n5 n6 n7 n8 p0 p1 p2 p3 p4 p5 p6 p7 p8 sc fo pe) l p).put (some 155) (.bool pe)) W') : o.wp Ybad.prog (actOf v (rv (w.heap.size + 1) N G Pr x0 x1 x2 x3 x4 x5 d0 d1 d2 d3 d4 d5 d6 d7 d8 n0 n1 n2 n3 n4 n5 n6 n7 n8 p0 p1 p2 p3 p4 p5 p6 p7 p8 sc fo pe) l p) W K Q := by
  obtain ⟨ht1, ht2, ht3⟩ := tab_spec (i := 89) rfl rfl ho
  have hdp := dep_chk ht3 hd
  have h154 : (actOf v (rv (w.heap.size + 1) N G Pr x0 x1 x2 x3 x4 x5 d0 d1 d2 d3 d4 d5 d6 d7 d8 n0 n1 n2 n3 n4 n5 n6 n7 n8 p0 p1 p2 p3 p4 p5 p6 p7 p8 sc fo pe) l p).tmps[154]? = some (.pointer (some ⟨w.heap.size + 1, 29, none⟩)) := actOf_dep' v _ l p 154 _ (by omega) (by omega) (hdp 88 (by simp)) rfl
  clear hdp hd ho ht3
  generalize actOf v (rv (w.heap.size + 1) N G Pr x0 x1 x2 x3 x4 x5 d0 d1 d2 d3 d4 d5 d6 d7 d8 n0 n1 n2 n3 n4 n5 n6 n7 n8 p0 p1 p2 p3 p4 p5 p6 p7 p8 sc fo pe) l p = a at *
  obtain ⟨odst, oop, oty, opos, oaft, og⟩ := o
  obtain rfl : odst = some 155 := ht1
  obtain rfl : oop = .load 4 (.tmp 154) := ht2
  have hK1 := hK W hS (Below.refl _ _)
  have hc : W.cell? ⟨w.heap.size + 1, 29, none⟩ = some (.bool pe) := hS.2.2.2.2.2.2.2.2.2.2.2.2.2.2.2.2.2.2.2.2.2.2.2.2.2.2.2.2.2.1
  clear hK
  unfold Oper.wp execOp
  go_simp
  exact hK1
set_option maxHeartbeats 1000000 in
theorem op156 {w wr : World} {A : Nat → Value} {ec : List Value} {N G Pr x0 x1 x2 x3 x4 x5 d0 d1 d2 d3 d4 d5 d6 d7 d8 p0 p1 p2 p3 p4 p5 p6 p7 p8 : Int} {n0 n1 n2 n3 n4 n5 n6 n7 n8 : Nat} {sc fo pe : Bool} (v : Nat → Value) (l : Array Bool) (p : Nat) (W : World) (Q : Exit → Act → World → Prop) (K : Act → World → Prop) (o : Oper) (ho : opsR[90]? = some o) (hd : ∀ e ∈ o.after, Region.binds .any e = true → l.getD e.on false = true)
    (hS : EvS w wr A ec N G Pr x0 x1 x2 x3 x4 x5 d0 d1 d2 d3 d4 d5 d6 d7 d8 p0 p1 p2 p3 p4 p5 p6 p7 p8 sc fo pe W) (hK : ∀ W', EvS w wr A ec N G Pr x0 x1 x2 x3 x4 x5 d0 d1 d2 d3 d4 d5 d6 d7 d8 p0 p1 p2 p3 p4 p5 p6 p7 p8 sc fo pe W' → Below W.heap.size W W' → K ((actOf v (rv (w.heap.size + 1) N G Pr x0 x1 x2 x3 x4 x5 d0 d1 d2 d3 d4 d5 d6 d7 d8 n0 n1 n2 n3 n4 n5 n6 n7 n8 p0 p1 p2 p3 p4 p5 p6 p7 p8 sc fo pe) l p).put (some 156) (.agg #[.int .i64 N, .int .u64 d0, .int .u8 ((n0 : Nat) : Int), .int .i64 G, .int .u64 d1, .int .u8 ((n1 : Nat) : Int), .int .u64 d2, .int .u8 ((n2 : Nat) : Int), .int .u64 d3, .int .u8 ((n3 : Nat) : Int), .int .u64 d4, .int .u8 ((n4 : Nat) : Int), .int .u64 d5, .int .u8 ((n5 : Nat) : Int), .int .u64 d6, .int .u8 ((n6 : Nat) : Int), .int .u64 d7, .int .u8 ((n7 : Nat) : Int), .int .u64 d8, .int .u8 ((n8 : Nat) : Int), .int .i64 x0, .int .i64 x1, .int .i64 x2, .int .i64 x3, .int .i64 x4, .int .i64 x5, .bool sc, .int .i64 Pr, .bool fo, .bool pe])) W') : o.wp Ybad.prog (actOf v (rv (w.heap.size + 1) N G Pr x0 x1 x2 x3 x4 x5 d0 d1 d2 d3 d4 d5 d6 d7 d8 n0 n1 n2 n3 n4 n5 n6 n7 n8 p0 p1 p2 p3 p4 p5 p6 p7 p8 sc fo pe) l p) W K Q := by
  obtain ⟨ht1, ht2, ht3⟩ := tab_spec (i := 90) rfl rfl ho
  have hdp := dep_chk ht3 hd
  have h67 : (actOf v (rv (w.heap.size + 1) N G Pr x0 x1 x2 x3 x4 x5 d0 d1 d2 d3 d4 d5 d6 d7 d8 n0 n1 n2 n3 n4 n5 n6 n7 n8 p0 p1 p2 p3 p4 p5 p6 p7 p8 sc fo pe) l p).tmps[67]? = some (.int .i64 N) := actOf_dep' v _ l p 67 _ (by omega) (by omega) (hdp 1 (by simp)) rfl
  have h74 : (actOf v (rv (w.heap.size + 1) N G Pr x0 x1 x2 x3 x4 x5 d0 d1 d2 d3 d4 d5 d6 d7 d8 n0 n1 n2 n3 n4 n5 n6 n7 n8 p0 p1 p2 p3 p4 p5 p6 p7 p8 sc fo pe) l p).tmps[74]? = some (.agg #[.int .u64 d0, .int .u8 ((n0 : Nat) : Int)]) := actOf_dep' v _ l p 74 _ (by omega) (by omega) (hdp 8 (by simp)) rfl
  have h76 : (actOf v (rv (w.heap.size + 1) N G Pr x0 x1 x2 x3 x4 x5 d0 d1 d2 d3 d4 d5 d6 d7 d8 n0 n1 n2 n3 n4 n5 n6 n7 n8 p0 p1 p2 p3 p4 p5 p6 p7 p8 sc fo pe) l p).tmps[76]? = some (.int .i64 G) := actOf_dep' v _ l p 76 _ (by omega) (by omega) (hdp 10 (by simp)) rfl
  have h98 : (actOf v (rv (w.heap.size + 1) N G Pr x0 x1 x2 x3 x4 x5 d0 d1 d2 d3 d4 d5 d6 d7 d8 n0 n1 n2 n3 n4 n5 n6 n7 n8 p0 p1 p2 p3 p4 p5 p6 p7 p8 sc fo pe) l p).tmps[98]? = some (.agg #[.int .u64 d1, .int .u8 ((n1 : Nat) : Int), .int .u64 d2, .int .u8 ((n2 : Nat) : Int), .int .u64 d3, .int .u8 ((n3 : Nat) : Int)]) := actOf_dep' v _ l p 98 _ (by omega) (by omega) (hdp 32 (by simp)) rfl
  have h134 : (actOf v (rv (w.heap.size + 1) N G Pr x0 x1 x2 x3 x4 x5 d0 d1 d2 d3 d4 d5 d6 d7 d8 n0 n1 n2 n3 n4 n5 n6 n7 n8 p0 p1 p2 p3 p4 p5 p6 p7 p8 sc fo pe) l p).tmps[134]? = some (.agg #[.int .u64 d4, .int .u8 ((n4 : Nat) : Int), .int .u64 d5, .int .u8 ((n5 : Nat) : Int), .int .u64 d6, .int .u8 ((n6 : Nat) : Int), .int .u64 d7, .int .u8 ((n7 : Nat) : Int), .int .u64 d8, .int .u8 ((n8 : Nat) : Int)]) := actOf_dep' v _ l p 134 _ (by omega) (by omega) (hdp 68 (by simp)) rfl
  have h149 : (actOf v (rv (w.heap.size + 1) N G Pr x0 x1 x2 x3 x4 x5 d0 d1 d2 d3 d4 d5 d6 d7 d8 n0 n1 n2 n3 n4 n5 n6 n7 n8 p0 p1 p2 p3 p4 p5 p6 p7 p8 sc fo pe) l p).tmps[149]? = some (.agg #[.int .i64 x0, .int .i64 x1, .int .i64 x2, .int .i64 x3, .int .i64 x4, .int .i64 x5, .bool sc]) := actOf_dep' v _ l p 149 _ (by omega) (by omega) (hdp 83 (by simp)) rfl
  have h151 : (actOf v (rv (w.heap.size + 1) N G Pr x0 x1 x2 x3 x4 x5 d0 d1 d2 d3 d4 d5 d6 d7 d8 n0 n1 n2 n3 n4 n5 n6 n7 n8 p0 p1 p2 p3 p4 p5 p6 p7 p8 sc fo pe) l p).tmps[151]? = some (.int .i64 Pr) := actOf_dep' v _ l p 151 _ (by omega) (by omega) (hdp 85 (by simp)) rfl
  have h153 : (actOf v (rv (w.heap.size + 1) N G Pr x0 x1 x2 x3 x4 x5 d0 d1 d2 d3 d4 d5 d6 d7 d8 n0 n1 n2 n3 n4 n5 n6 n7 n8 p0 p1 p2 p3 p4 p5 p6 p7 p8 sc fo pe) l p).tmps[153]? = some (.bool fo) := actOf_dep' v _ l p 153 _ (by omega) (by omega) (hdp 87 (by simp)) rfl
  have h155 : (actOf v (rv (w.heap.size + 1) N G Pr x0 x1 x2 x3 x4 x5 d0 d1 d2 d3 d4 d5 d6 d7 d8 n0 n1 n2 n3 n4 n5 n6 n7 n8 p0 p1 p2 p3 p4 p5 p6 p7 p8 sc fo pe) l p).tmps[155]? = some (.bool pe) := actOf_dep' v _ l p 155 _ (by omega) (by omega) (hdp 89 (by simp)) rfl
  clear hdp hd ho ht3
  generalize actOf v (rv (w.heap.size + 1) N G Pr x0 x1 x2 x3 x4 x5 d0 d1 d2 d3 d4 d5 d6 d7 d8 n0 n1 n2 n3 n4 n5 n6 n7 n8 p0 p1 p2 p3 p4 p5 p6 p7 p8 sc fo pe) l p = a at *
  obtain ⟨odst, oop, oty, opos, oaft, og⟩ := o
  obtain rfl : odst = some 156 := ht1
  obtain rfl : oop = .build 50 #[(0, .tmp 67), (1, .tmp 74), (2, .tmp 76), (3, .tmp 98), (4, .tmp 134), (5, .tmp 149), (6, .tmp 151), (7, .tmp 153), (8, .tmp 155)] := ht2
  have hK1 := hK W hS (Below.refl _ _)
  clear hK
  unfold Oper.wp execOp
  go_simp
  exact hK1
end Go.Proofs.YbulkdhacDoor
