/-
  figures: the nineteen figures of an event.
-/
import Derived.Test.YbulkdhacDoorLeaves
import Derived.RegionTactic
import Derived.BigRegion
import Derived.Deep.DeepCutAuto
import Derived.Deep.LoopGhost
import Derived.Deep.RegionHeld3
namespace Go.Proofs.YbulkdhacDoor
open Go.RowKit Floats

/-- An event, as plain data. -/
structure Ev where
  (N G Pr x0 x1 x2 x3 x4 x5 : Int)
  (d0 d1 d2 d3 d4 d5 d6 d7 d8 : Int)
  (n0 n1 n2 n3 n4 n5 n6 n7 n8 : Nat)
  (sc fo pe : Bool)

/-- its thirty cells. -/
def Ev.cells (e : Ev) : List Value := [.int .i64 e.N, .int .u64 e.d0, .int .u8 e.n0, .int .i64 e.G, .int .u64 e.d1, .int .u8 e.n1, .int .u64 e.d2, .int .u8 e.n2, .int .u64 e.d3, .int .u8 e.n3, .int .u64 e.d4, .int .u8 e.n4, .int .u64 e.d5, .int .u8 e.n5, .int .u64 e.d6, .int .u8 e.n6, .int .u64 e.d7, .int .u8 e.n7, .int .u64 e.d8, .int .u8 e.n8, .int .i64 e.x0, .int .i64 e.x1, .int .i64 e.x2, .int .i64 e.x3, .int .i64 e.x4, .int .i64 e.x5, .bool e.sc, .int .i64 e.Pr, .bool e.fo, .bool e.pe]

/-- the places are less than twenty. -/
structure Ev.Fit (e : Ev) : Prop where
  p0 : e.n0 < 20
  p1 : e.n1 < 20
  p2 : e.n2 < 20
  p3 : e.n3 < 20
  p4 : e.n4 < 20
  p5 : e.n5 < 20
  p6 : e.n6 < 20
  p7 : e.n7 < 20
  p8 : e.n8 < 20

/-- the quotients' bits. -/
structure Ev.Quo (e : Ev) (r0 r1 r2 r3 r4 r5 r6 r7 r8 : Nat) : Prop where
  q0 : floatBits .quo .f64 (floatOfInt .f64 e.d0) (floatOfInt .f64 (p10 e.n0)) = some r0
  q1 : floatBits .quo .f64 (floatOfInt .f64 e.d1) (floatOfInt .f64 (p10 e.n1)) = some r1
  q2 : floatBits .quo .f64 (floatOfInt .f64 e.d2) (floatOfInt .f64 (p10 e.n2)) = some r2
  q3 : floatBits .quo .f64 (floatOfInt .f64 e.d3) (floatOfInt .f64 (p10 e.n3)) = some r3
  q4 : floatBits .quo .f64 (floatOfInt .f64 e.d4) (floatOfInt .f64 (p10 e.n4)) = some r4
  q5 : floatBits .quo .f64 (floatOfInt .f64 e.d5) (floatOfInt .f64 (p10 e.n5)) = some r5
  q6 : floatBits .quo .f64 (floatOfInt .f64 e.d6) (floatOfInt .f64 (p10 e.n6)) = some r6
  q7 : floatBits .quo .f64 (floatOfInt .f64 e.d7) (floatOfInt .f64 (p10 e.n7)) = some r7
  q8 : floatBits .quo .f64 (floatOfInt .f64 e.d8) (floatOfInt .f64 (p10 e.n8)) = some r8

/-- block b holds the event. -/
def Ev.At (e : Ev) (w : World) (b : Nat) : Prop := ∀ i, i < 30 → w.cell? ⟨b, i, none⟩ = e.cells[i]?

def scanB (b : Bool) : Nat := if b then one64 else 0

/-- the figures. -/
def Ev.figs (e : Ev) (r0 r1 r2 r3 r4 r5 r6 r7 r8 : Nat) : Array Value := #[.float .f64 (floatOfInt .f64 e.N), .float .f64 r0, .float .f64 (floatOfInt .f64 e.G), .float .f64 r1, .float .f64 r2, .float .f64 r3, .float .f64 r4, .float .f64 r5, .float .f64 r6, .float .f64 r7, .float .f64 r8, .float .f64 (floatOfInt .f64 e.x0), .float .f64 (floatOfInt .f64 e.x1), .float .f64 (floatOfInt .f64 e.x2), .float .f64 (floatOfInt .f64 e.x3), .float .f64 (floatOfInt .f64 e.x4), .float .f64 (floatOfInt .f64 e.x5), .float .f64 (scanB e.sc), .float .f64 (floatOfInt .f64 e.Pr)]

def zeros19 : Obj := .cells #[.float .f64 0, .float .f64 0, .float .f64 0, .float .f64 0, .float .f64 0, .float .f64 0, .float .f64 0, .float .f64 0, .float .f64 0, .float .f64 0, .float .f64 0, .float .f64 0, .float .f64 0, .float .f64 0, .float .f64 0, .float .f64 0, .float .f64 0, .float .f64 0, .float .f64 0] 23

theorem cell_up {X : World} {a : Addr} {v : Value} (o : Obj) (k : Nat) (h : X.cell? a = some v) : ((X.alloc o).drewN k).cell? a = some v := by
  rw [World.cell?_drewN, World.cell?_alloc_lt _ _ _ (World.block_lt_of_cell? X a h)]; exact h
theorem there_up {X : World} {b o n : Nat} (x : Obj) (k : Nat) (h : X.there b o n) : ((X.alloc x).drewN k).there b o n := fun j hj => World.there_alloc h x j hj
theorem pow_up {X : World} (x : Obj) (k : Nat) (h : Pow X) : Pow ((X.alloc x).drewN k) := (h.alloc x).drewN k
theorem cell_put {X : World} {a : Addr} {v : Value} {g : Nat} {vs : List Value} (h : X.cell? a = some v) (hne : a.block ≠ g) : (X.setCells g 0 vs).cell? a = some v := by
  rw [World.cell?_setCells_out g vs 0 X a (fun e => absurd e hne)]; exact h
theorem size_setCells (b : Nat) : ∀ (vs : List Value) (o : Nat) (w : World), (w.setCells b o vs).heap.size = w.heap.size
  | [], _, _ => rfl
  | v :: r, o, w => by rw [World.setCells, size_setCells b r]; simp [World.setCell]
theorem pow_put {X : World} {g : Nat} {vs : List Value} (h : Pow X) (hg : 1 < g) : Pow (X.setCells g 0 vs) :=
  ⟨by rw [size_setCells]; exact h.size, fun j hj => cell_put (h.cell j hj) (by show (1 : Nat) ≠ g; omega)⟩
theorem cell_drew {X : World} {a : Addr} {v : Value} (h : X.cell? a = some v) : X.drew.cell? a = some v := h
theorem there_drew {X : World} {b o n : Nat} (h : X.there b o n) : X.drew.there b o n := h
theorem there_new (w : World) : (w.alloc zeros19).there w.heap.size 0 19 := by
  intro j hj
  unfold zeros19
  rw [World.cell?_alloc_at _ _ _ _ rfl, World.frozen?_alloc_at _ _ _ _ rfl]
  refine ⟨?_, rfl⟩
  rw [Nat.zero_add, Array.getElem?_eq_getElem (by simpa using hj)]
  rfl

/-- what is held of the world behind the three copies. -/
@[reducible] def FigS (b s a3 a4 a5 : Nat) (N G Pr x0 x1 x2 x3 x4 x5 d0 d1 d2 d3 d4 d5 d6 d7 d8 : Int) (n0 n1 n2 n3 n4 n5 n6 n7 n8 : Nat) (sc : Bool) (w W : World) : Prop := W.cell? ⟨a3, 0, none⟩ = some (.int .u64 d1) ∧ W.cell? ⟨a3, 1, none⟩ = some (.int .u8 ((n1 : Nat) : Int)) ∧ W.cell? ⟨a3, 2, none⟩ = some (.int .u64 d2) ∧ W.cell? ⟨a3, 3, none⟩ = some (.int .u8 ((n2 : Nat) : Int)) ∧ W.cell? ⟨a3, 4, none⟩ = some (.int .u64 d3) ∧ W.cell? ⟨a3, 5, none⟩ = some (.int .u8 ((n3 : Nat) : Int)) ∧ W.cell? ⟨a4, 0, none⟩ = some (.int .u64 d4) ∧ W.cell? ⟨a4, 1, none⟩ = some (.int .u8 ((n4 : Nat) : Int)) ∧ W.cell? ⟨a4, 2, none⟩ = some (.int .u64 d5) ∧ W.cell? ⟨a4, 3, none⟩ = some (.int .u8 ((n5 : Nat) : Int)) ∧ W.cell? ⟨a4, 4, none⟩ = some (.int .u64 d6) ∧ W.cell? ⟨a4, 5, none⟩ = some (.int .u8 ((n6 : Nat) : Int)) ∧ W.cell? ⟨a4, 6, none⟩ = some (.int .u64 d7) ∧ W.cell? ⟨a4, 7, none⟩ = some (.int .u8 ((n7 : Nat) : Int)) ∧ W.cell? ⟨a4, 8, none⟩ = some (.int .u64 d8) ∧ W.cell? ⟨a4, 9, none⟩ = some (.int .u8 ((n8 : Nat) : Int)) ∧ W.cell? ⟨a5, 0, none⟩ = some (.int .i64 x0) ∧ W.cell? ⟨a5, 1, none⟩ = some (.int .i64 x1) ∧ W.cell? ⟨a5, 2, none⟩ = some (.int .i64 x2) ∧ W.cell? ⟨a5, 3, none⟩ = some (.int .i64 x3) ∧ W.cell? ⟨a5, 4, none⟩ = some (.int .i64 x4) ∧ W.cell? ⟨a5, 5, none⟩ = some (.int .i64 x5) ∧ W.cell? ⟨a5, 6, none⟩ = some (.bool sc) ∧ W.cell? ⟨b, 0, none⟩ = some (.int .i64 N) ∧ W.cell? ⟨b, 1, none⟩ = some (.int .u64 d0) ∧ W.cell? ⟨b, 2, none⟩ = some (.int .u8 ((n0 : Nat) : Int)) ∧ W.cell? ⟨b, 3, none⟩ = some (.int .i64 G) ∧ W.cell? ⟨b, 27, none⟩ = some (.int .i64 Pr) ∧ W.there s 0 19 ∧ Pow W ∧ Below s w W

theorem cell_below {W W' : World} (hu : Below W.heap.size W W') {a : Addr} {v : Value} (h : W.cell? a = some v) : W'.cell? a = some v := by
  rw [hu.cell (World.block_lt_of_cell? W a h)]; exact h
theorem there_below {W W' : World} (hu : Below W.heap.size W W') {b o n : Nat} (h : W.there b o n) : W'.there b o n := fun j hj => by
  obtain ⟨h1, h2⟩ := h j hj
  obtain ⟨u, hu1⟩ := Option.isSome_iff_exists.1 h1
  have hb := World.block_lt_of_cell? W _ hu1
  rw [hu.cell hb, hu.frozen hb]; exact ⟨h1, h2⟩
theorem pow_below {W W' : World} (hu : Below W.heap.size W W') (h : Pow W) : Pow W' :=
  ⟨by have := h.size; have := hu.size; omega, fun j hj => cell_below hu (h.cell j hj)⟩

theorem FigS.up {b s a3 a4 a5 : Nat} {N G Pr x0 x1 x2 x3 x4 x5 d0 d1 d2 d3 d4 d5 d6 d7 d8 : Int} {n0 n1 n2 n3 n4 n5 n6 n7 n8 : Nat} {sc : Bool} {w W : World} {W' : World} (hs : s ≤ w.heap.size) (h : FigS b s a3 a4 a5 N G Pr x0 x1 x2 x3 x4 x5 d0 d1 d2 d3 d4 d5 d6 d7 d8 n0 n1 n2 n3 n4 n5 n6 n7 n8 sc w W) (hu : Below W.heap.size W W') : FigS b s a3 a4 a5 N G Pr x0 x1 x2 x3 x4 x5 d0 d1 d2 d3 d4 d5 d6 d7 d8 n0 n1 n2 n3 n4 n5 n6 n7 n8 sc w W' := by
  obtain ⟨h0, h1, h2, h3, h4, h5, h6, h7, h8, h9, h10, h11, h12, h13, h14, h15, h16, h17, h18, h19, h20, h21, h22, h23, h24, h25, h26, h27, h28, h29, h30⟩ := h
  exact ⟨cell_below hu h0, cell_below hu h1, cell_below hu h2, cell_below hu h3, cell_below hu h4, cell_below hu h5, cell_below hu h6, cell_below hu h7, cell_below hu h8, cell_below hu h9, cell_below hu h10, cell_below hu h11, cell_below hu h12, cell_below hu h13, cell_below hu h14, cell_below hu h15, cell_below hu h16, cell_below hu h17, cell_below hu h18, cell_below hu h19, cell_below hu h20, cell_below hu h21, cell_below hu h22, cell_below hu h23, cell_below hu h24, cell_below hu h25, cell_below hu h26, cell_below hu h27, there_below hu h28, pow_below hu h29, h30.trans (hu.mono (Nat.le_trans hs h30.size))⟩
theorem FigS.drew {b s a3 a4 a5 : Nat} {N G Pr x0 x1 x2 x3 x4 x5 d0 d1 d2 d3 d4 d5 d6 d7 d8 : Int} {n0 n1 n2 n3 n4 n5 n6 n7 n8 : Nat} {sc : Bool} {w W : World} (h : FigS b s a3 a4 a5 N G Pr x0 x1 x2 x3 x4 x5 d0 d1 d2 d3 d4 d5 d6 d7 d8 n0 n1 n2 n3 n4 n5 n6 n7 n8 sc w W) : FigS b s a3 a4 a5 N G Pr x0 x1 x2 x3 x4 x5 d0 d1 d2 d3 d4 d5 d6 d7 d8 n0 n1 n2 n3 n4 n5 n6 n7 n8 sc w W.drew := by
  obtain ⟨h0, h1, h2, h3, h4, h5, h6, h7, h8, h9, h10, h11, h12, h13, h14, h15, h16, h17, h18, h19, h20, h21, h22, h23, h24, h25, h26, h27, h28, h29, h30⟩ := h
  exact ⟨h0, h1, h2, h3, h4, h5, h6, h7, h8, h9, h10, h11, h12, h13, h14, h15, h16, h17, h18, h19, h20, h21, h22, h23, h24, h25, h26, h27, h28, h29.drew, h30.drew⟩
theorem below_setCells {B : Nat} {a : World} (g : Nat) (hB : B ≤ g) : ∀ (vs : List Value) (o : Nat) (w : World), Below B a w → Below B a (w.setCells g o vs)
  | [], _, _, h => h
  | v :: r, o, w, h => by rw [World.setCells]; exact below_setCells g hB r _ _ (h.setCell (p := ⟨g, o, none⟩) hB v)
theorem FigS.put {b s a3 a4 a5 : Nat} {N G Pr x0 x1 x2 x3 x4 x5 d0 d1 d2 d3 d4 d5 d6 d7 d8 : Int} {n0 n1 n2 n3 n4 n5 n6 n7 n8 : Nat} {sc : Bool} {w W : World} (vs : List Value) (h1s : 1 < s) (hb : b < s) (l3 : s < a3) (l4 : s < a4) (l5 : s < a5) (h : FigS b s a3 a4 a5 N G Pr x0 x1 x2 x3 x4 x5 d0 d1 d2 d3 d4 d5 d6 d7 d8 n0 n1 n2 n3 n4 n5 n6 n7 n8 sc w W) : FigS b s a3 a4 a5 N G Pr x0 x1 x2 x3 x4 x5 d0 d1 d2 d3 d4 d5 d6 d7 d8 n0 n1 n2 n3 n4 n5 n6 n7 n8 sc w (W.setCells s 0 vs) := by
  obtain ⟨h0, h1, h2, h3, h4, h5, h6, h7, h8, h9, h10, h11, h12, h13, h14, h15, h16, h17, h18, h19, h20, h21, h22, h23, h24, h25, h26, h27, h28, h29, h30⟩ := h
  have k3 : a3 ≠ s := by omega
  have k4 : a4 ≠ s := by omega
  have k5 : a5 ≠ s := by omega
  have kb : b ≠ s := by omega
  exact ⟨cell_put h0 k3, cell_put h1 k3, cell_put h2 k3, cell_put h3 k3, cell_put h4 k3, cell_put h5 k3, cell_put h6 k4, cell_put h7 k4, cell_put h8 k4, cell_put h9 k4, cell_put h10 k4, cell_put h11 k4, cell_put h12 k4, cell_put h13 k4, cell_put h14 k4, cell_put h15 k4, cell_put h16 k5, cell_put h17 k5, cell_put h18 k5, cell_put h19 k5, cell_put h20 k5, cell_put h21 k5, cell_put h22 k5, cell_put h23 kb, cell_put h24 kb, cell_put h25 kb, cell_put h26 kb, cell_put h27 kb, World.there_setCells h28 _ _ _, pow_put h29 h1s, below_setCells s (Nat.le_refl s) vs 0 _ h30⟩

/-- a block's cells. -/
def Holds (W : World) (p : Nat) (c : Array Value) : Prop := ∀ (j : Nat) (v : Value), c[j]? = some v → W.cell? ⟨p, j, none⟩ = some v
theorem Holds.new (W : World) (c : Array Value) (ty : TypeId) (p : Nat) (hp : p = W.heap.size) : Holds (W.alloc (.cells c ty)) p c := fun j v h => by
  subst hp
  rw [World.cell?_alloc_at _ _ _ _ rfl]; exact h
theorem Holds.alloc {W : World} {p : Nat} {c : Array Value} (h : Holds W p c) (o : Obj) : Holds (W.alloc o) p c := fun j v hj => by
  rw [World.cell?_alloc_lt _ _ _ (World.block_lt_of_cell? W _ (h j v hj))]; exact h j v hj
theorem Holds.drew {W : World} {p : Nat} {c : Array Value} (h : Holds W p c) : Holds W.drew p c := h

theorem FigS.first {b a3 a4 a5 : Nat} {N G Pr x0 x1 x2 x3 x4 x5 d0 d1 d2 d3 d4 d5 d6 d7 d8 : Int} {n0 n1 n2 n3 n4 n5 n6 n7 n8 : Nat} {sc : Bool} {w W : World}
    (hb : b < w.heap.size) (c0 : w.cell? ⟨b, 0, none⟩ = some (.int .i64 N)) (c1 : w.cell? ⟨b, 1, none⟩ = some (.int .u64 d0)) (c2 : w.cell? ⟨b, 2, none⟩ = some (.int .u8 n0)) (c3 : w.cell? ⟨b, 3, none⟩ = some (.int .i64 G)) (c27 : w.cell? ⟨b, 27, none⟩ = some (.int .i64 Pr))
    (h3 : Holds W a3 #[.int .u64 d1, .int .u8 ((n1 : Nat) : Int), .int .u64 d2, .int .u8 ((n2 : Nat) : Int), .int .u64 d3, .int .u8 ((n3 : Nat) : Int)]) (h4 : Holds W a4 #[.int .u64 d4, .int .u8 ((n4 : Nat) : Int), .int .u64 d5, .int .u8 ((n5 : Nat) : Int), .int .u64 d6, .int .u8 ((n6 : Nat) : Int), .int .u64 d7, .int .u8 ((n7 : Nat) : Int), .int .u64 d8, .int .u8 ((n8 : Nat) : Int)]) (h5 : Holds W a5 #[.int .i64 x0, .int .i64 x1, .int .i64 x2, .int .i64 x3, .int .i64 x4, .int .i64 x5, .bool sc]) (ht : W.there w.heap.size 0 19) (hp : Pow W) (hB : Below w.heap.size w W) :
    FigS b w.heap.size a3 a4 a5 N G Pr x0 x1 x2 x3 x4 x5 d0 d1 d2 d3 d4 d5 d6 d7 d8 n0 n1 n2 n3 n4 n5 n6 n7 n8 sc w W :=
  ⟨h3 0 _ rfl, h3 1 _ rfl, h3 2 _ rfl, h3 3 _ rfl, h3 4 _ rfl, h3 5 _ rfl, h4 0 _ rfl, h4 1 _ rfl, h4 2 _ rfl, h4 3 _ rfl, h4 4 _ rfl, h4 5 _ rfl, h4 6 _ rfl, h4 7 _ rfl, h4 8 _ rfl, h4 9 _ rfl, h5 0 _ rfl, h5 1 _ rfl, h5 2 _ rfl, h5 3 _ rfl, h5 4 _ rfl, h5 5 _ rfl, h5 6 _ rfl, (hB.cell hb).trans c0, (hB.cell hb).trans c1, (hB.cell hb).trans c2, (hB.cell hb).trans c3, (hB.cell hb).trans c27, ht, hp, hB⟩
end Go.Proofs.YbulkdhacDoor
