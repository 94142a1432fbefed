/-
  The events held against each other: the region's steps by hand.
-/
import Derived.Test.YbulkdhacDoorMid
import Derived.Laws.StructEq
namespace Go.Proofs.YbulkdhacDoor
open Go.RowKit Floats
set_option maxRecDepth 100000 in
theorem eq_ev {N G Pr x0 x1 x2 x3 x4 x5 d0 d1 d2 d3 d4 d5 d6 d7 d8 : Int} {n0 n1 n2 n3 n4 n5 n6 n7 n8 : Nat} {sc fo pe : Bool} (W : World) :
    (Op.equalIn 10000 50 (.agg #[.int .i64 N, .int .u64 d0, .int .u8 ((n0 : Nat) : Int), .int .i64 G, .int .u64 d1, .int .u8 ((n1 : Nat) : Int), .int .u64 d2, .int .u8 ((n2 : Nat) : Int), .int .u64 d3, .int .u8 ((n3 : Nat) : Int), .int .u64 d4, .int .u8 ((n4 : Nat) : Int), .int .u64 d5, .int .u8 ((n5 : Nat) : Int), .int .u64 d6, .int .u8 ((n6 : Nat) : Int), .int .u64 d7, .int .u8 ((n7 : Nat) : Int), .int .u64 d8, .int .u8 ((n8 : Nat) : Int), .int .i64 x0, .int .i64 x1, .int .i64 x2, .int .i64 x3, .int .i64 x4, .int .i64 x5, .bool sc, .int .i64 Pr, .bool fo, .bool pe]) (.agg #[.int .i64 N, .int .u64 d0, .int .u8 ((n0 : Nat) : Int), .int .i64 G, .int .u64 d1, .int .u8 ((n1 : Nat) : Int), .int .u64 d2, .int .u8 ((n2 : Nat) : Int), .int .u64 d3, .int .u8 ((n3 : Nat) : Int), .int .u64 d4, .int .u8 ((n4 : Nat) : Int), .int .u64 d5, .int .u8 ((n5 : Nat) : Int), .int .u64 d6, .int .u8 ((n6 : Nat) : Int), .int .u64 d7, .int .u8 ((n7 : Nat) : Int), .int .u64 d8, .int .u8 ((n8 : Nat) : Int), .int .i64 x0, .int .i64 x1, .int .i64 x2, .int .i64 x3, .int .i64 x4, .int .i64 x5, .bool sc, .int .i64 Pr, .bool fo, .bool pe])).run Ybad.prog W = .ok true W := by
  go_simp
theorem eqg50 : Ybad.prog.eqGuardType Ybad.prog.depth 50 = false := by kernel_rfl
theorem wpQuiet_put {P : Program} {ops : Array Oper} {C : World → Prop} {Q : Act → Prop} {a : Act} {o : Oper} {rest : List Oper} (hw : Region.wanted o (yielded ops a.tmps) = true) (v : Value)
    (h1 : ∀ w, C w → o.quietAt P a C w v) (h2 : wpQuiet P ops C Q rest (a.put o.dst v)) : wpQuiet P ops C Q (o :: rest) a := by
  unfold wpQuiet
  rw [if_pos hw]
  exact ⟨v, h1, h2⟩
theorem quietAt_load {P : Program} {C : World → Prop} {a : Act} {o : Oper} {w : World} (ty : TypeId) (x : Operand) (ho : o.op = .load ty x)
    (b f : Nat) (hx : a.eval x = .pointer (some ⟨b, f, none⟩)) (cs : List Value) (d : TypeDesc) (hc : w.rangeAt b f cs)
    (hu : P.underlying ty = some d) (hd : d.isRow = true) (hi : (P.info? ty).map (·.size) = some cs.length) : o.quietAt P a C w (.agg cs.toArray) := by
  unfold Oper.quietAt execOp
  simp only [ho, hx, Instr.loadAt, Instr.sureAddr, Sem.run_bind, Sem.run_pure, Result.andThen_ok, run_loadVar_mid w b f ty cs d hc hu hd hi]
  exact ⟨rfl, rfl⟩
set_option maxRecDepth 100000 in
theorem quietAt_neq {N G Pr x0 x1 x2 x3 x4 x5 d0 d1 d2 d3 d4 d5 d6 d7 d8 : Int} {n0 n1 n2 n3 n4 n5 n6 n7 n8 : Nat} {sc fo pe : Bool} {C : World → Prop} {a : Act} {o : Oper} {w : World} (x y : Operand) (ho : o.op = .binOp .neq 50 x y 50)
    (ev : List Value) (hev : ev = [.int .i64 N, .int .u64 d0, .int .u8 ((n0 : Nat) : Int), .int .i64 G, .int .u64 d1, .int .u8 ((n1 : Nat) : Int), .int .u64 d2, .int .u8 ((n2 : Nat) : Int), .int .u64 d3, .int .u8 ((n3 : Nat) : Int), .int .u64 d4, .int .u8 ((n4 : Nat) : Int), .int .u64 d5, .int .u8 ((n5 : Nat) : Int), .int .u64 d6, .int .u8 ((n6 : Nat) : Int), .int .u64 d7, .int .u8 ((n7 : Nat) : Int), .int .u64 d8, .int .u8 ((n8 : Nat) : Int), .int .i64 x0, .int .i64 x1, .int .i64 x2, .int .i64 x3, .int .i64 x4, .int .i64 x5, .bool sc, .int .i64 Pr, .bool fo, .bool pe]) (hx : a.eval x = .agg ev.toArray) (hy : a.eval y = .agg ev.toArray) : o.quietAt Ybad.prog a C w (.bool false) := by
  have h := eq_ev (N := N) (G := G) (Pr := Pr) (x0 := x0) (x1 := x1) (x2 := x2) (x3 := x3) (x4 := x4) (x5 := x5) (d0 := d0) (d1 := d1) (d2 := d2) (d3 := d3) (d4 := d4) (d5 := d5) (d6 := d6) (d7 := d7) (d8 := d8) (n0 := n0) (n1 := n1) (n2 := n2) (n3 := n3) (n4 := n4) (n5 := n5) (n6 := n6) (n7 := n7) (n8 := n8) (sc := sc) (fo := fo) (pe := pe) w
  have h' : (Op.equalIn 10000 50 (.agg ev.toArray) (.agg ev.toArray)).run Ybad.prog w = .ok true w := by rw [hev]; exact h
  unfold Oper.quietAt execOp
  simp only [ho, hx, hy]
  simp only [Sem.run_bind, run_eqGuard_agg w _ _ _ _ _ _ eqg50, Result.andThen_ok, run_neq_struct, h', Sem.run_pure]
  exact ⟨rfl, rfl⟩
end Go.Proofs.YbulkdhacDoor
