/-
  (*yardstick).set with no event before.
-/
import Derived.Test.YbulkdhacDoorLeaves
import Derived.RegionTactic
import Derived.BigRegion
import Derived.WalkSmall
import Derived.Deep.DeepCutAuto
import Derived.Deep.CutBlock
import Derived.Deep.LoopGhost
import Derived.Deep.RegionHeld3
import Derived.Deep.MidRow
import Derived.Below
namespace Go.Proofs.YbulkdhacDoor
open Go.RowKit Floats
/-- a float is stored as any value of one cell. -/
theorem run_store_flt (P : Program) (w : World) (a : Addr) (k : FloatKind) (b : Nat) (m : Mode) : (store a (.float k b) m).run P w = stored P w a (.float k b) m := run_store P w a _ m rfl
theorem alloc_drewN (w : World) (n : Nat) (o : Obj) : (w.drewN n).alloc o = (w.alloc o).drewN n := rfl
theorem setCell_drewN (w : World) (n : Nat) (a : Addr) (v : Value) : (w.drewN n).setCell a v = (w.setCell a v).drewN n := rfl
attribute [local go_sem] run_store_flt alloc_drewN setCell_drewN

/-- block y holds the 250 cells that A says; they may be written. -/
structure Yd (w : World) (y : Nat) (A : Nat → Value) : Prop where
  cell : ∀ c, c < 250 → w.cell? ⟨y, c, none⟩ = some (A c)
  free : ∀ c, w.frozen? ⟨y, c, none⟩ = false
def upd (A : Nat → Value) (c : Nat) (v : Value) : Nat → Value := fun i => if i = c then v else A i
theorem Yd.set {w : World} {y : Nat} {A : Nat → Value} (h : Yd w y A) (c : Nat) (hc : c < 250) (v : Value) : Yd (w.setCell ⟨y, c, none⟩ v) y (upd A c v) := by
  refine ⟨fun i hi => ?_, fun i => by rw [World.frozen?_setCell]; exact h.free i⟩
  unfold upd
  by_cases e : i = c
  · subst e; rw [if_pos rfl, World.cell?_setCell_same _ _ _ (h.cell i hi)]
  · rw [if_neg e, World.cell?_setCell_other _ _ _ _ (fun x => e (congrArg Addr.off x).symm)]; exact h.cell i hi
theorem Yd.drewN {w : World} {y : Nat} {A : Nat → Value} (h : Yd w y A) (q : Nat) : Yd (w.drewN q) y A := ⟨h.cell, h.free⟩
theorem Yd.lt {w : World} {y : Nat} {A : Nat → Value} (h : Yd w y A) : y < w.heap.size := World.block_lt_of_cell? w _ (h.cell 0 (by omega))
theorem Yd.congr {w : World} {y : Nat} {A B : Nat → Value} (h : Yd w y A) (e : ∀ c, c < 250 → A c = B c) : Yd w y B := ⟨fun c hc => by rw [← e c hc]; exact h.cell c hc, h.free⟩
/-- only block y may have been written. -/
theorem grown_set {w w1 : World} {y : Nat} (h : w.grownBy w1 (some y)) (c : Nat) (v : Value) : w.grownBy (w1.setCell ⟨y, c, none⟩ v) (some y) :=
  ⟨h.os, h.tape, h.output, by simpa [World.setCell] using h.size, fun k hk hne => by rw [Below.heap_setCell _ _ _ _ (fun e => hne (by rw [e]))]; exact h.block k hk hne⟩
theorem grown_drewN {w w1 : World} {r : Option Nat} (h : w.grownBy w1 r) (q : Nat) : w.grownBy (w1.drewN q) r := ⟨h.os, h.tape, h.output, h.size, h.block⟩
theorem grown_refl (w : World) (r : Option Nat) : w.grownBy w r := ⟨rfl, rfl, rfl, Nat.le_refl _, fun _ _ _ => rfl⟩

/-- the slots below k are empty. -/
def recN (A : Nat → Value) (k : Nat) : Nat → Value := fun c => if 58 ≤ c ∧ (c - 58) % 3 = 0 ∧ (c - 58) / 3 < k then .int .i64 (-1) else A c
theorem recN_zero (A : Nat → Value) (c : Nat) : recN A 0 c = A c := by unfold recN; rw [if_neg (by omega)]
theorem recN_succ (A : Nat → Value) (k c : Nat) : upd (recN A k) (58 + k * 3) (.int .i64 (-1)) c = recN A (k + 1) c := by
  unfold upd recN
  by_cases e : c = 58 + k * 3
  · rw [if_pos e, if_pos (by omega)]
  · rw [if_neg e]
    by_cases e2 : 58 ≤ c ∧ (c - 58) % 3 = 0 ∧ (c - 58) / 3 < k
    · rw [if_pos e2, if_pos (by omega)]
    · rw [if_neg e2, if_neg (by omega)]
def Ln2 : Nat := 4604418534313441775

set_option maxHeartbeats 1000000 in
theorem set_nil (y : Nat) (A : Nat → Value) (w : World) (hy : Yd w y A) :
    Calls Ybad.prog 5 #[.pointer (some ⟨y, 0, none⟩), .pointer none] w fun e w' => e = .returned (.tuple #[]) ∧ Yd w' y (upd (upd (recN A 64) 0 (.bool true)) 39 (.float .f64 Ln2)) ∧ w.grownBy w' (some y) := by
  have HY : Hid (Yd w y A) := hy
  clear hy
  go_enter Ybad.func5, Ybad.ntmps5
  go_wp2_with fail
  go_loopg [6] 64 (fun g i wr => ∃ k : Nat, k + g = 64 ∧ i = .int .i64 k ∧ Yd wr y (recN A k) ∧ w.grownBy wr (some y))
  case atStart => exact ⟨0, by omega, rfl, HY.out.congr (fun c _ => (recN_zero A c).symm), grown_refl _ _⟩
  case round =>
    obtain ⟨k, hk, rfl, h1, h2⟩ := hrel
    have H1 : Hid (Yd wr y (recN A k)) := h1
    have H2 : Hid (w.grownBy wr (some y)) := h2
    have HK : Hid (k + gk = 64) := hk
    by_cases hlt : k < 64
    · have c1 := h1.cell (58 + k * 3) (by omega)
      have f1 := h1.free (58 + k * 3)
      have i1 : (0 : Int) ≤ (k : Int) := by omega
      have i2 : (k : Int) < 64 := by omega
      clear h1 h2 hk
      go_wp2
      go_roundg (gk - 1)
      case measure => have := HK.out; omega
      case rel => exact ⟨k + 1, by have := HK.out; omega, by go_num, (H1.out.set _ (by omega) _).congr (fun c _ => recN_succ A k c), grown_set H2.out _ _⟩
    · obtain rfl : k = 64 := by omega
      have c0 := h1.cell 0 (by omega)
      have f0 := h1.free 0
      have c39 := h1.cell 39 (by omega)
      have f39 := h1.free 39
      clear h1 h2 hk hlt
      go_wp2
      exact bodyPost_ret (v := .tuple #[]) (by simp [results, Ybad.results5, go_sem]) rfl ⟨rfl, (H1.out.set 0 (by omega) _).set 39 (by omega) _, grown_set (grown_set H2.out _ _) _ _⟩

/-- nineteen floats into the cells from 1 on. -/
def putB (A : Nat → Value) (L : List Nat) : Nat → Value := fun c => if 1 ≤ c ∧ c < 20 then .float .f64 (L.getD (c - 1) 0) else A c
def fl (L : List Nat) : Array Value := (L.map (Value.float .f64)).toArray
theorem fl_get (L : List Nat) (j : Nat) (h : j < L.length) : (fl L).toList[j]? = some (.float .f64 (L.getD j 0)) := by
  unfold fl; simp [List.getD, List.getElem?_eq_getElem h]
theorem Yd.there {w : World} {y : Nat} {A : Nat → Value} (h : Yd w y A) : w.there y 1 19 := fun j hj => ⟨by rw [h.cell (1 + j) (by omega)]; rfl, h.free _⟩
theorem Yd.putB {w : World} {y : Nat} {A : Nat → Value} (h : Yd w y A) (L : List Nat) (hL : L.length = 19) : Yd (w.setCells y 1 (fl L).toList) y (putB A L) := by
  have hl : (fl L).toList.length = 19 := by unfold fl; simpa using hL
  refine ⟨fun c hc => ?_, fun c => by rw [World.frozen?_setCells]; exact h.free c⟩
  unfold YbulkdhacDoor.putB
  by_cases e : 1 ≤ c ∧ c < 20
  · rw [if_pos e]
    have := World.rangeAt_setCells_same w y 1 (fl L).toList (by rw [hl]; exact h.there)
    have h2 := this (c - 1) _ (fl_get L (c - 1) (by omega))
    rwa [show 1 + (c - 1) = c from by omega] at h2
  · rw [if_neg e, World.cell?_setCells_out y (fl L).toList 1 w ⟨y, c, none⟩ (fun _ _ => by show c < 1 ∨ 1 + (fl L).toList.length ≤ c; omega)]
    exact h.cell c hc
theorem grown_setCells {w : World} {y : Nat} : ∀ (vs : List Value) (o : Nat) (w1 : World), w.grownBy w1 (some y) → w.grownBy (w1.setCells y o vs) (some y)
  | [], _, _, h => h
  | v :: r, o, w1, h => by rw [World.setCells]; exact grown_setCells r (o + 1) _ (grown_set h o v)
theorem fl_one (L : List Nat) : ∀ v ∈ (fl L).toList, v.oneCell' = true := by
  intro v hv
  unfold fl at hv
  simp at hv
  obtain ⟨x, _, rfl⟩ := hv
  rfl
theorem store_fl {w : World} {y : Nat} {A : Nat → Value} (h : Yd w y A) (L : List Nat) (hL : L.length = 19) : (storeCells ⟨y, 1, none⟩ (fl L).toList).run Ybad.prog w = .ok () (w.setCells y 1 (fl L).toList) := by
  have hl : (fl L).toList.length = 19 := by unfold fl; simpa using hL
  exact run_storeCells_cells (P := Ybad.prog) y 1 (fl L).toList 0 w (fun j hj => (h.there j (by omega)).1) (fun j hj => (h.there j (by omega)).2) (fl_one L)

theorem Yd.below {w w' : World} {y : Nat} {A : Nat → Value} (h : Yd w y A) (hb : Below w.heap.size w w') : Yd w' y A :=
  ⟨fun c hc => (hb.cell (p := ⟨y, c, none⟩) h.lt).trans (h.cell c hc), fun c => (hb.frozen (p := ⟨y, c, none⟩) h.lt).trans (h.free c)⟩
theorem grown_below {w w1 w2 : World} {y : Nat} (h : w.grownBy w1 (some y)) (hb : Below w1.heap.size w1 w2) : w.grownBy w2 (some y) :=
  ⟨hb.os.trans h.os, hb.tape.trans h.tape, hb.output.trans h.output, Nat.le_trans h.size hb.size, fun k hk hne => (hb.block k (Nat.lt_of_lt_of_le hk h.size)).trans (h.block k hk hne)⟩
theorem fl_size (L : List Nat) (h : L.length = 19) : (fl L).size = 19 := by unfold fl; simpa using h
theorem add_run {a r : Nat} (h : floatBits .add .f64 a one64 = some r) (W : World) : (binOp .add 22 (.float .f64 a) (.float .f64 4607182418800017408)).run Ybad.prog W = .ok (.float .f64 r) W := run_float_arith W .add 22 .f64 _ _ _ h
theorem quo_run {a r : Nat} (h : floatBits .quo .f64 one64 a = some r) (W : World) : (binOp .quo 22 (.float .f64 4607182418800017408) (.float .f64 a)).run Ybad.prog W = .ok (.float .f64 r) W := run_float_arith W .quo 22 .f64 _ _ _ h

/-- what the second loop has left below k. -/
structure Done (B : Nat → Value) (k : Nat) (mm bb qq : Nat → Nat) (A1 : Nat → Value) : Prop where
  b : ∀ i, i < k → B (1 + i) = .float .f64 (bb i)
  z : ∀ i, i < k → ∃ r, Sim (logO (qq i)) r ∧ B (20 + i) = .float .f64 (absB r)
  l : ∀ i, i < k → ∃ r, Sim (logO (bb i)) r ∧ B (39 + i) = .float .f64 r
  m : ∀ i, k ≤ i → i < 19 → B (1 + i) = .float .f64 (mm i)
  o : ∀ c, c = 0 ∨ 58 ≤ c → B c = A1 c

theorem Done.step {B : Nat → Value} {k : Nat} {mm bb qq : Nat → Nat} {A1 : Nat → Value} (h : Done B k mm bb qq A1) (hk : k < 19) {r1 r2 : Nat} (h1 : Sim (logO (qq k)) r1) (h2 : Sim (logO (bb k)) r2) :
    Done (upd (upd (upd B (1 + k) (.float .f64 (bb k))) (20 + k) (.float .f64 (absB r1))) (39 + k) (.float .f64 r2)) (k + 1) mm bb qq A1 := by
  refine ⟨fun i hi => ?_, fun i hi => ?_, fun i hi => ?_, fun i hi hi' => ?_, fun c hc => ?_⟩
  · unfold upd
    rw [if_neg (by omega), if_neg (by omega)]
    by_cases e : i = k
    · subst e; rw [if_pos rfl]
    · rw [if_neg (by omega)]; exact h.b i (by omega)
  · by_cases e : i = k
    · subst e
      refine ⟨r1, h1, ?_⟩
      unfold upd
      rw [if_neg (by omega), if_pos rfl]
    · obtain ⟨r, hr, hz⟩ := h.z i (by omega)
      refine ⟨r, hr, ?_⟩
      unfold upd
      rw [if_neg (by omega), if_neg (by omega), if_neg (by omega)]; exact hz
  · by_cases e : i = k
    · subst e
      refine ⟨r2, h2, ?_⟩
      unfold upd
      rw [if_pos rfl]
    · obtain ⟨r, hr, hz⟩ := h.l i (by omega)
      refine ⟨r, hr, ?_⟩
      unfold upd
      rw [if_neg (by omega), if_neg (by omega), if_neg (by omega)]; exact hz
  · unfold upd
    rw [if_neg (by omega), if_neg (by omega), if_neg (by omega)]; exact h.m i (by omega) hi'
  · unfold upd
    rw [if_neg (by omega), if_neg (by omega), if_neg (by omega)]; exact h.o c hc

set_option maxHeartbeats 2000000 in
theorem set_prev (y b : Nat) (A : Nat → Value) (w : World) (hy : Yd w y A) (L : List Nat) (hL : L.length = 19) (mm bb qq : Nat → Nat)
    (h0 : floatBits .add .f64 (L.getD 0 0) one64 = some (mm 0)) (hm : ∀ i, 0 < i → i < 19 → L.getD i 0 = mm i)
    (hbb : ∀ i, i < 19 → floatBits .add .f64 (mm i) one64 = some (bb i)) (hqq : ∀ i, i < 19 → floatBits .quo .f64 one64 (bb i) = some (qq i))
    (hfig : ∀ W, (∀ a v, a.block ≠ y → w.cell? a = some v → W.cell? a = some v) → w.heap.size ≤ W.heap.size → Calls Ybad.prog 11 #[.pointer (some ⟨b, 0, none⟩)] W fun e w' => e = .returned (.agg (fl L)) ∧ Below W.heap.size W w') :
    Calls Ybad.prog 5 #[.pointer (some ⟨y, 0, none⟩), .pointer (some ⟨b, 0, none⟩)] w fun e w' => e = .returned (.tuple #[]) ∧ w.grownBy w' (some y) ∧ ∃ B, Yd w' y B ∧ Done B 19 mm bb qq (upd (recN A 64) 0 (.bool false)) := by
  have HY : Hid (Yd w y A) := hy
  have HFIG : Hid (∀ W, (∀ a v, a.block ≠ y → w.cell? a = some v → W.cell? a = some v) → w.heap.size ≤ W.heap.size → Calls Ybad.prog 11 #[.pointer (some ⟨b, 0, none⟩)] W fun e w' => e = .returned (.agg (fl L)) ∧ Below W.heap.size W w') := hfig
  have H0 : Hid (floatBits .add .f64 (L.getD 0 0) one64 = some (mm 0)) := h0
  have HM : Hid (∀ i, 0 < i → i < 19 → L.getD i 0 = mm i) := hm
  have HBB : Hid (∀ i, i < 19 → floatBits .add .f64 (mm i) one64 = some (bb i)) := hbb
  have HQQ : Hid (∀ i, i < 19 → floatBits .quo .f64 one64 (bb i) = some (qq i)) := hqq
  have HL : Hid (L.length = 19) := hL
  clear hy hfig h0 hm hbb hqq hL
  go_enter Ybad.func5, Ybad.ntmps5
  go_wp2_with fail
  go_loopg [6] 64 (fun g i wr => ∃ k : Nat, k + g = 64 ∧ i = .int .i64 k ∧ Yd wr y (recN A k) ∧ w.grownBy wr (some y))
  case atStart => exact ⟨0, by omega, rfl, HY.out.congr (fun c _ => (recN_zero A c).symm), grown_refl _ _⟩
  case round =>
    obtain ⟨k, hk, rfl, h1, h2⟩ := hrel
    have H1 : Hid (Yd wr y (recN A k)) := h1
    have H2 : Hid (w.grownBy wr (some y)) := h2
    have HK : Hid (k + gk = 64) := hk
    by_cases hlt : k < 64
    · have c1 := h1.cell (58 + k * 3) (by omega)
      have f1 := h1.free (58 + k * 3)
      have i1 : (0 : Int) ≤ (k : Int) := by omega
      have i2 : (k : Int) < 64 := by omega
      clear h1 h2 hk
      go_wp2
      go_roundg (gk - 1)
      case measure => have := HK.out; omega
      case rel => exact ⟨k + 1, by have := HK.out; omega, by go_num, (H1.out.set _ (by omega) _).congr (fun c _ => recN_succ A k c), grown_set H2.out _ _⟩
    · obtain rfl : k = 64 := by omega
      have c0 := h1.cell 0 (by omega)
      have f0 := h1.free 0
      clear h1 h2 hk hlt
      go_wp2_with fail
      have G1 := grown_set H2.out 0 (.bool false)
      have HG1 : Hid (w.grownBy (wr.setCell ⟨y, 0, none⟩ (.bool false)) (some y)) := G1
      clear G1
      refine (HFIG.out _ (fun a v ha hv => HG1.out.cell hv (by simpa using ha)) HG1.out.size).mono ?_
      rintro e wf ⟨rfl, hbel⟩
      have HY1 : Hid (Yd wf y (upd (recN A 64) 0 (.bool false))) := (H1.out.set 0 (by omega) _).below hbel
      have HG2 : Hid (w.grownBy wf (some y)) := grown_below HG1.out hbel
      have hst := store_fl HY1.out L HL.out
      have hcz := fl_size L HL.out
      clear hbel c0 f0 HG1 H1 H2
      go_upto_region 9 with fail
      clear hst hcz
      have HY2 : Hid (Yd (wf.setCells y 1 (fl L).toList) y (putB (upd (recN A 64) 0 (.bool false)) L)) := HY1.out.putB L HL.out
      have HG3 : Hid (w.grownBy (wf.setCells y 1 (fl L).toList) (some y)) := grown_setCells _ _ _ HG2.out
      clear HY1 HG2
      generalize wf.setCells y 1 (fl L).toList = ws at *
      obtain ⟨l0, hl0⟩ : ∃ l0, l0 = L.getD 0 0 := ⟨_, rfl⟩
      have c1 : ws.cell? ⟨y, 1, none⟩ = some (.float .f64 l0) := by rw [hl0]; exact HY2.out.cell 1 (by omega)
      have f1 := HY2.out.free 1
      have ha := add_run (by rw [hl0]; exact H0.out : floatBits .add .f64 l0 one64 = some (mm 0))
      clear hl0
      go_region
      clear ha c1 f1
      have HD : Hid (Done (upd (putB (upd (recN A 64) 0 (.bool false)) L) 1 (.float .f64 (mm 0))) 0 mm bb qq (upd (recN A 64) 0 (.bool false))) := by
        refine ⟨fun i hi => by omega, fun i hi => by omega, fun i hi => by omega, fun i _ hi => ?_, fun c hc => ?_⟩
        · by_cases e : i = 0
          · subst e; unfold upd; rw [if_pos rfl]
          · unfold upd putB
            rw [if_neg (by omega), if_pos (by omega), show 1 + i - 1 = i from by omega, HM.out i (by omega) hi]
        · have h1 : c ≠ 1 := by omega
          have h2 : ¬ (1 ≤ c ∧ c < 20) := by omega
          show upd (putB (upd (recN A 64) 0 (.bool false)) L) 1 _ c = upd (recN A 64) 0 (.bool false) c
          rw [upd, if_neg h1, putB, if_neg h2]
      have HYD : Hid (Yd (ws.setCell ⟨y, 1, none⟩ (.float .f64 (mm 0))) y (upd (putB (upd (recN A 64) 0 (.bool false)) L) 1 (.float .f64 (mm 0)))) := HY2.out.set 1 (by omega) _
      have HGD : Hid (w.grownBy (ws.setCell ⟨y, 1, none⟩ (.float .f64 (mm 0))) (some y)) := grown_set HG3.out _ _
      clear HY2 HG3
      go_wp2_with fail
      go_loopg [43] 19 (fun g i wv => ∃ k : Nat, k + g = 19 ∧ i = .int .i64 k ∧ w.grownBy wv (some y) ∧ ∃ B, Yd wv y B ∧ Done B k mm bb qq (upd (recN A 64) 0 (.bool false)))
      case atStart => exact ⟨0, by omega, rfl, grown_drewN HGD.out 1, _, HYD.out.drewN 1, HD.out⟩
      case round =>
        obtain ⟨k, hk, rfl, h2, B, h1, h3⟩ := hrel
        have H1 : Hid (Yd wr y B) := h1
        have H2 : Hid (w.grownBy wr (some y)) := h2
        have H3 : Hid (Done B k mm bb qq (upd (recN A 64) 0 (.bool false))) := h3
        have HK : Hid (k + gk = 19) := hk
        clear HYD HGD HD
        by_cases hlt : k < 19
        · have c1 : wr.cell? ⟨y, 1 + k, none⟩ = some (.float .f64 (mm k)) := (h1.cell (1 + k) (by omega)).trans (by rw [h3.m k (Nat.le_refl _) hlt])
          have f1 := h1.free (1 + k)
          have i1 : (0 : Int) ≤ (k : Int) := by omega
          have i2 : (k : Int) < 19 := by omega
          have ha := add_run (HBB.out k hlt)
          clear h1 h2 h3 hk
          go_upto_region 13 with fail
          go_region
          clear ha c1 f1
          go_upto_region 14 with fail
          have Y1 := H1.out.set (1 + k) (by omega) (.float .f64 (bb k))
          have HY1 : Hid (Yd (wr.setCell ⟨y, 1 + k, none⟩ (.float .f64 (bb k))) y (upd B (1 + k) (.float .f64 (bb k)))) := Y1
          have HG1 : Hid (w.grownBy (wr.setCell ⟨y, 1 + k, none⟩ (.float .f64 (bb k))) (some y)) := grown_set H2.out _ _
          clear Y1 H2
          generalize wr.setCell ⟨y, 1 + k, none⟩ (.float .f64 (bb k)) = w1 at *
          have c1 : w1.cell? ⟨y, 1 + k, none⟩ = some (.float .f64 (bb k)) := (HY1.out.cell (1 + k) (by omega)).trans (by simp [upd])
          have c2 := HY1.out.cell (20 + k) (by omega)
          have f2 := HY1.out.free (20 + k)
          have hq := quo_run (HQQ.out k hlt)
          go_region_with (first
            | (go_at_call 10; refine (log_any (qq k) _).mono ?_; rintro e w' ⟨r1, q1, rfl, hs1, rfl⟩; have HS1 : Hid (Sim (logO (qq k)) r1) := hs1; clear hs1)
            | (go_at_call 9; refine (abs_any _ _).mono ?_; rintro e w' ⟨rfl, rfl⟩))
          clear hq c1 c2 f2
          go_upto_region 15 with fail
          have HY2 : Hid (Yd (w1.setCell ⟨y, 20 + k, none⟩ (.float .f64 (absB r1))) y (upd (upd B (1 + k) (.float .f64 (bb k))) (20 + k) (.float .f64 (absB r1)))) := HY1.out.set (20 + k) (by omega) _
          have HG2 : Hid (w.grownBy (w1.setCell ⟨y, 20 + k, none⟩ (.float .f64 (absB r1))) (some y)) := grown_set HG1.out _ _
          clear HY1 HG1
          generalize w1.setCell ⟨y, 20 + k, none⟩ (.float .f64 (absB r1)) = w2 at *
          have c1 : w2.cell? ⟨y, 1 + k, none⟩ = some (.float .f64 (bb k)) := (HY2.out.cell (1 + k) (by omega)).trans (by simp only [upd]; rw [if_neg (by omega), if_pos trivial])
          have c2 := HY2.out.cell (39 + k) (by omega)
          have f2 := HY2.out.free (39 + k)
          go_region_with (first
            | (go_at_call 10; refine (log_any (bb k) _).mono ?_; rintro e w' ⟨r2, q2, rfl, hs2, rfl⟩; have HS2 : Hid (Sim (logO (bb k)) r2) := hs2; clear hs2))
          clear c1 c2 f2
          have HY3 : Hid (Yd (w2.setCell ⟨y, 39 + k, none⟩ (.float .f64 r2)) y (upd (upd (upd B (1 + k) (.float .f64 (bb k))) (20 + k) (.float .f64 (absB r1))) (39 + k) (.float .f64 r2))) := HY2.out.set (39 + k) (by omega) _
          have HG3 : Hid (w.grownBy (w2.setCell ⟨y, 39 + k, none⟩ (.float .f64 r2)) (some y)) := grown_set HG2.out _ _
          clear HY2 HG2
          go_wp2
          go_roundg (gk - 1)
          case measure => have := HK.out; omega
          case rel =>
            refine ⟨k + 1, by have := HK.out; omega, by go_num, grown_drewN HG3.out _, _, HY3.out.drewN _, ?_⟩
            exact H3.out.step hlt HS1.out HS2.out
        · obtain rfl : k = 19 := by omega
          clear h1 h2 h3 hk
          go_wp2
          go_end0
          exact ⟨rfl, H2.out, B, H1.out, H3.out⟩
end Go.Proofs.YbulkdhacDoor
