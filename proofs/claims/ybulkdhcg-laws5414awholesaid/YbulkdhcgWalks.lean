/-
  THE WALKS of LawS5414AWhole's two callees: zzs5414aop, (*change).end.
-/
import Derived.Test.YbulkdhcgRows
import Derived.Test.YbulkdhcgPlain
import Derived.WalkKit
import Derived.WalkSpells
import Derived.RowKit3
import Derived.Below
import Derived.Deep.LoopGhost
import Derived.Deep.DeepCutAuto
import Derived.Deep.QuietTactic
import Derived.BigQuiet
import Derived.Deep.MidRow
namespace Go.Proofs.Ybulkdhcg
open Go.RowKit Plain

/-- one op, as plain data. -/
structure Op9 where
  (kd : Int) (fs : Bool) (sd : Int) (hb : Bool) (ra rn ba bn ct : Int)
/-- its nine cells. -/
def Op9.cells (o : Op9) : Array Value := #[.int .u8 o.kd, .bool o.fs, .int .u8 o.sd, .bool o.hb, .int .u64 o.ra, .int .u64 o.rn, .int .u64 o.ba, .int .u64 o.bn, .int .u64 o.ct]
def Op9.at (o : Op9) (j : Nat) : Value := o.cells.getD j undef
structure Op9.Fit (o : Op9) : Prop where
  kd : 0 ≤ o.kd ∧ o.kd ≤ 255
  sd : 0 ≤ o.sd ∧ o.sd ≤ 255
  ra : 0 ≤ o.ra ∧ o.ra ≤ 18446744073709551615
  rn : 0 ≤ o.rn ∧ o.rn ≤ 18446744073709551615
  ba : 0 ≤ o.ba ∧ o.ba ≤ 18446744073709551615
  bn : 0 ≤ o.bn ∧ o.bn ≤ 18446744073709551615
  ct : 0 ≤ o.ct ∧ o.ct ≤ 18446744073709551615

theorem op_any (o : Op9) (w : World) :
    Calls Yba.prog 4 #[.agg o.cells] w fun e w' => e = .returned (.agg o.cells) ∧ ∃ c1 c2 : Array Value, w' = (w.alloc (.cells c1 33)).alloc (.cells c2 30) := by
  obtain ⟨kd, fs, sd, hb, ra, rn, ba, bn, ct⟩ := o
  unfold Op9.cells
  go_enter Yba.func4, Yba.ntmps4
  go_wp2
  exact bodyPost_ret (v := .agg #[.int .u8 kd, .bool fs, .int .u8 sd, .bool hb, .int .u64 ra, .int .u64 rn, .int .u64 ba, .int .u64 bn, .int .u64 ct]) (by simp [results, Yba.results4, go_sem]) rfl ⟨rfl, _, _, rfl⟩

/-- block b holds n ops, the i-th as 'o i' says. -/
structure Rows9 (w : World) (b n : Nat) (o : Nat → Op9) : Prop where
  size : b < w.heap.size
  cell : ∀ i, i < n → ∀ j, j < 9 → w.cell? ⟨b, i * 9 + j, none⟩ = some ((o i).at j)

set_option maxHeartbeats 400000 in
theorem end_any (bc b n : Nat) (start : Int) (o : Nat → Op9) (hn : n ≤ 1048576) (w : World)
    (c2 : w.cell? ⟨bc, 2, none⟩ = some (.int .u64 start)) (c3 : w.cell? ⟨bc, 3, none⟩ = some (.slice (some ⟨b, 0, none⟩) n n)) (hr : Rows9 w b n o) :
    Calls Yba.prog 5 #[.pointer (some ⟨bc, 0, none⟩)] w fun e w' => e = .returned (.int .u64 (endTo start (fun i => (o i).kd) (fun i => (o i).ct) n)) ∧ w' = w := by
  have HR : Hid (Rows9 w b n o) := hr
  clear hr
  go_enter Yba.func5, Yba.ntmps5
  go_wp2
  go_loop [3, 15] (fun s i => ∃ k : Nat, k ≤ n ∧ i = .int .i64 k ∧ s = .int .u64 (endTo start (fun i => (o i).kd) (fun i => (o i).ct) k)) (fun _ i => n - (intOf i).toNat)
  case atStart => exact ⟨0, Nat.zero_le _, rfl, rfl⟩
  case round =>
    obtain ⟨k, hk, rfl, rfl⟩ := hrel
    by_cases hlt : k < n
    · have d0 : w.cell? ⟨b, k * 9, none⟩ = some (.int .u8 (o k).kd) := HR.out.cell k hlt 0 (by omega)
      have d8 : w.cell? ⟨b, k * 9 + 8, none⟩ = some (.int .u64 (o k).ct) := HR.out.cell k hlt 8 (by omega)
      by_cases h1 : (o k).kd = 1
      · have e1 : ((o k).kd == 1) = true := by simp [h1]
        have H1 : Hid ((o k).kd = 1) := h1
        clear h1
        go_wp2
        go_round
        case rel => exact ⟨k + 1, by omega, by go_num, by rw [IntKind.wrap_u64]; simp only [endTo, if_pos H1.out]⟩
        case measure => simp [intOf]; omega
      · have e1 : ((o k).kd == 1) = false := by simp [h1]
        have H1 : Hid (¬ (o k).kd = 1) := h1
        clear h1
        go_wp2
        go_round
        case rel => exact ⟨k + 1, by omega, by go_num, by simp only [endTo, if_neg H1.out]⟩
        case measure => simp [intOf]; omega
    · obtain rfl : k = n := by omega
      go_wp2
      go_ret
      exact ⟨rfl, rfl⟩

/-! ### what the law does to its two rows of ops -/
theorem at_of (o : Op9) (j : Nat) (h : j < 9) : o.cells.toList[j]? = some (o.at j) := by
  have hs : o.cells.size = 9 := rfl
  rw [Array.getElem?_toList, Array.getElem?_eq_getElem (by omega)]
  unfold Op9.at
  simp [Array.getD, hs, h]
theorem Rows9.range {w : World} {b n : Nat} {o : Nat → Op9} (h : Rows9 w b n o) (i : Nat) (hi : i < n) : w.rangeAt b (i * 9) (o i).cells.toList := by
  intro j v hv
  have hj : j < 9 := by
    have := (List.getElem?_eq_some_iff.1 hv).1
    exact this
  rw [at_of _ j hj] at hv
  cases hv
  exact h.cell i hi j hj
theorem Rows9.alloc {w : World} {b n : Nat} {o : Nat → Op9} (h : Rows9 w b n o) (x : Obj) : Rows9 (w.alloc x) b n o :=
  ⟨by rw [World.size_alloc]; have := h.size; omega, fun i hi j hj => by rw [World.cell?_alloc_past _ _ _ h.size]; exact h.cell i hi j hj⟩
theorem Rows9.drewN {w : World} {b n : Nat} {o : Nat → Op9} (h : Rows9 w b n o) (k : Nat) : Rows9 (w.drewN k) b n o := ⟨h.size, h.cell⟩

theorem size_setCells (b : Nat) : ∀ (vs : List Value) (o : Nat) (w : World), (w.setCells b o vs).heap.size = w.heap.size
  | [], _, _ => rfl
  | v :: r, o, w => by rw [World.setCells, size_setCells b r]; simp [World.setCell]
theorem below_setCells {B : Nat} {a : World} (b : Nat) (hb : B ≤ b) : ∀ (vs : List Value) (o : Nat) (w : World), Below B a w → Below B a (w.setCells b o vs)
  | [], _, _, h => h
  | v :: r, o, w, h => by rw [World.setCells]; exact below_setCells b hb r (o + 1) _ (h.setCell (p := ⟨b, o, none⟩) hb v)

/-- the cells of a row of n ops are there and may be written. -/
structure Room9 (w : World) (b n : Nat) : Prop where
  size : b < w.heap.size
  there : ∀ i, i < n → w.there b (i * 9) 9
theorem Room9.alloc {w : World} {b n : Nat} (h : Room9 w b n) (x : Obj) : Room9 (w.alloc x) b n :=
  ⟨by rw [World.size_alloc]; have := h.size; omega, fun i hi => World.there_alloc (h.there i hi) x⟩
theorem Room9.setCells {w : World} {b n : Nat} (h : Room9 w b n) (c o : Nat) (vs : List Value) : Room9 (w.setCells c o vs) b n :=
  ⟨by rw [size_setCells]; exact h.size, fun i hi => World.there_setCells (h.there i hi) c o vs⟩
theorem Rows9.apart {w : World} {b n : Nat} {o : Nat → Op9} (h : Rows9 w b n o) (c off : Nat) (vs : List Value) (hc : b ≠ c) : Rows9 (w.setCells c off vs) b n o :=
  ⟨by rw [size_setCells]; exact h.size, fun i hi j hj => by rw [World.cell?_setCells_out c vs off w _ (fun e => absurd e hc)]; exact h.cell i hi j hj⟩
theorem Rows9.stored {w : World} {b n k : Nat} {o : Nat → Op9} (h : Rows9 w b k o) (hm : Room9 w b n) (hk : k < n) : Rows9 (w.setCells b (k * 9) (o k).cells.toList) b (k + 1) o := by
  refine ⟨by rw [size_setCells]; exact h.size, fun i hi j hj => ?_⟩
  by_cases e : i = k
  · subst e
    have hl : (o i).cells.toList.length = 9 := rfl
    have := World.rangeAt_setCells_same w b (i * 9) (o i).cells.toList (by rw [hl]; exact hm.there i hk)
    exact this j _ (at_of (o i) j hj)
  · have hl : (o k).cells.toList.length = 9 := rfl
    rw [World.cell?_setCells_out b (o k).cells.toList (k * 9) w ⟨b, i * 9 + j, none⟩ (fun _ _ => Or.inl (by show i * 9 + j < k * 9; omega))]
    exact h.cell i (by omega) j hj

theorem one9 (o : Op9) : ∀ v ∈ o.cells.toList, v.oneCell' = true := by
  intro v hv
  simp [Op9.cells] at hv
  rcases hv with rfl | rfl | rfl | rfl | rfl | rfl | rfl | rfl | rfl <;> rfl
theorem store_run {W : World} {b n : Nat} (hm : Room9 W b n) {k : Nat} (hk : k < n) (o : Op9) :
    (storeCells ⟨b, k * 9, none⟩ o.cells.toList).run Yba.prog W = .ok () (W.setCells b (k * 9) o.cells.toList) :=
  run_storeCells_cells (P := Yba.prog) b (k * 9) o.cells.toList 0 W (fun j hj => (hm.there k hk j hj).1) (fun j hj => (hm.there k hk j hj).2) (one9 o)

/-- a new row of n zero ops. -/
def zop : Value := .agg #[.int .u8 0, .bool false, .int .u8 0, .bool false, .int .u64 0, .int .u64 0, .int .u64 0, .int .u64 0, .int .u64 0]
def zrow (n : Nat) : Obj := .cells (madeCells zop.cells (n * 9)) 30
theorem Yba.info30 : (Yba.prog.info? 30).map (fun i => (i.zero, i.size, i.bytes)) = some (some zop, 9, 48) := by kernel_rfl
theorem make_run (n : Nat) (hn : n ≤ 1048576) (w : World) : (Instr.makeSlice 24 (.int .i64 (n : Int)) (.int .i64 (n : Int))).run Yba.prog w = .ok (.slice (some ⟨w.heap.size, 0, none⟩) n n) (w.alloc (zrow n)) := by
  obtain ⟨i, hi, hz, hs, hb⟩ := info_parts Yba.info30
  have hr := run_make (P := Yba.prog) w 24 30 i zop Yba.underlying24 hi hz .i64 .i64 n n (by omega) (Int.le_refl _) (by rw [hb]; omega) (by omega)
  simp only [Int.toNat_natCast, hs] at hr
  exact hr
end Go.Proofs.Ybulkdhcg
