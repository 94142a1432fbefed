/-
  What is held behind set, where there is an event before.
-/
import Derived.Test.YbulkdhacDoorEvent
namespace Go.Proofs.YbulkdhacDoor
open Go.RowKit Floats

theorem range_below {W W' : World} (hu : Below W.heap.size W W') {b o : Nat} {cs : List Value} (h : W.rangeAt b o cs) : W'.rangeAt b o cs := fun j v hv => cell_below hu (h j v hv)

structure HeldP (w W : World) (A : Nat → Value) (ec : List Value) (B : Nat → Value) (a c : Nat) (ev : List Value) : Prop where
  h : Held w W A ec B
  ea : W.rangeAt a 0 ev
  eb : W.rangeAt c 0 ev
theorem HeldP.up {w W W' : World} {A : Nat → Value} {ec : List Value} {B : Nat → Value} {a c : Nat} {ev : List Value} (h : HeldP w W A ec B a c ev) (hu : Below W.heap.size W W') : HeldP w W' A ec B a c ev :=
  ⟨h.h.up hu, range_below hu h.ea, range_below hu h.eb⟩
theorem below_drewN (W : World) (n : Nat) : Below W.heap.size W (W.drewN n) := ⟨rfl, rfl, rfl, Nat.le_refl _, fun _ _ => rfl⟩
theorem below_alloc (W : World) (o : Obj) : Below W.heap.size W (W.alloc o) := (Below.refl _ W).alloc (Nat.le_refl _) o
theorem HeldP.drewN {w W : World} {A : Nat → Value} {ec : List Value} {B : Nat → Value} {a c : Nat} {ev : List Value} (h : HeldP w W A ec B a c ev) (n : Nat) : HeldP w (W.drewN n) A ec B a c ev := h.up (below_drewN W n)

def updN (M : Nat → Nat) (i v : Nat) : Nat → Nat := fun j => if j = i then v else M j
/-- beside it the row m of nineteen figures. -/
structure HeldM (w W : World) (A : Nat → Value) (ec : List Value) (B : Nat → Value) (a c : Nat) (ev : List Value) (m : Nat) (M : Nat → Nat) : Prop where
  h : HeldP w W A ec B a c ev
  lw : w.heap.size + 1 + 1 < m
  la : a < m
  lc : c < m
  cell : ∀ i, i < 19 → W.cell? ⟨m, i, none⟩ = some (.float .f64 (M i))
  free : ∀ i, W.frozen? ⟨m, i, none⟩ = false
theorem HeldM.lt {w W : World} {A : Nat → Value} {ec : List Value} {B : Nat → Value} {a c : Nat} {ev : List Value} {m : Nat} {M : Nat → Nat} (h : HeldM w W A ec B a c ev m M) : m < W.heap.size := World.block_lt_of_cell? W _ (h.cell 0 (by omega))
theorem HeldM.up {w W W' : World} {A : Nat → Value} {ec : List Value} {B : Nat → Value} {a c : Nat} {ev : List Value} {m : Nat} {M : Nat → Nat} (h : HeldM w W A ec B a c ev m M) (hu : Below W.heap.size W W') : HeldM w W' A ec B a c ev m M :=
  ⟨h.h.up hu, h.lw, h.la, h.lc, fun i hi => cell_below hu (h.cell i hi), fun i => (hu.frozen (p := ⟨m, i, none⟩) h.lt).trans (h.free i)⟩
theorem HeldM.drewN {w W : World} {A : Nat → Value} {ec : List Value} {B : Nat → Value} {a c : Nat} {ev : List Value} {m : Nat} {M : Nat → Nat} (h : HeldM w W A ec B a c ev m M) (n : Nat) : HeldM w (W.drewN n) A ec B a c ev m M := h.up (below_drewN W n)
theorem HeldM.congr {w W : World} {A : Nat → Value} {ec : List Value} {B : Nat → Value} {a c : Nat} {ev : List Value} {m : Nat} {M M' : Nat → Nat} (h : HeldM w W A ec B a c ev m M) (e : ∀ i, i < 19 → M i = M' i) : HeldM w W A ec B a c ev m M' :=
  ⟨h.h, h.lw, h.la, h.lc, fun i hi => by rw [← e i hi]; exact h.cell i hi, h.free⟩
theorem HeldM.new {w W : World} {A : Nat → Value} {ec : List Value} {B : Nat → Value} {a c : Nat} {ev : List Value} (h : HeldP w W A ec B a c ev) (la : a < W.heap.size) (lc : c < W.heap.size) : HeldM w (W.alloc zeros19) A ec B a c ev W.heap.size (fun _ => 0) := by
  refine ⟨h.up (below_alloc W _), h.h.y1.lt, la, lc, fun i hi => ?_, fun i => ?_⟩
  · unfold zeros19
    rw [World.cell?_alloc_at _ _ _ _ rfl]
    show (Array.replicate 19 (Value.float .f64 0))[i]? = _
    simp [hi]
  · unfold zeros19
    exact World.frozen?_alloc_at _ _ _ _ rfl
theorem HeldM.set {w W : World} {A : Nat → Value} {ec : List Value} {B : Nat → Value} {a c : Nat} {ev : List Value} {m : Nat} {M : Nat → Nat} (h : HeldM w W A ec B a c ev m M) (i : Nat) (hi : i < 19) (v : Nat) : HeldM w (W.setCell ⟨m, i, none⟩ (.float .f64 v)) A ec B a c ev m (updN M i v) := by
  have hlw := h.lw
  have hla := h.la
  have hlc := h.lc
  have ne : ∀ (y : Nat), y ≠ m → ∀ j, (W.setCell ⟨m, i, none⟩ (.float .f64 v)).cell? ⟨y, j, none⟩ = W.cell? ⟨y, j, none⟩ := fun y hy j => World.cell?_setCell_other _ _ _ _ (fun x => hy (congrArg Addr.block x).symm)
  have nf : ∀ (y : Nat), ∀ j, (W.setCell ⟨m, i, none⟩ (.float .f64 v)).frozen? ⟨y, j, none⟩ = W.frozen? ⟨y, j, none⟩ := fun y j => World.frozen?_setCell _ _ _ _
  have hh := h.h.h
  have hs := hh.pow.size
  have hz : (W.setCell ⟨m, i, none⟩ (.float .f64 v)).heap.size = W.heap.size := by simp [World.setCell]
  refine ⟨⟨⟨⟨fun c hc => by rw [ne _ (by omega)]; exact hh.y0.cell c hc, fun c => by rw [nf]; exact hh.y0.free c⟩, ⟨fun c hc => by rw [ne _ (by omega)]; exact hh.y1.cell c hc, fun c => by rw [nf]; exact hh.y1.free c⟩,
    fun j v hv => by rw [ne _ (by omega)]; exact hh.ev j v hv, hh.bel.setCell (p := ⟨m, i, none⟩) (by show w.heap.size ≤ m; omega) _, ⟨by rw [hz]; exact hs, fun j hj => by rw [ne _ (by omega)]; exact hh.pow.cell j hj⟩⟩,
    fun j v hv => by rw [ne _ (by omega)]; exact h.h.ea j v hv, fun j v hv => by rw [ne _ (by omega)]; exact h.h.eb j v hv⟩, h.lw, h.la, h.lc, fun j hj => ?_, fun j => by rw [nf]; exact h.free j⟩
  unfold updN
  by_cases e : j = i
  · subst e; rw [if_pos rfl, World.cell?_setCell_same _ _ _ (h.cell j hj)]
  · rw [if_neg e, World.cell?_setCell_other _ _ _ _ (fun x => e (congrArg Addr.off x).symm)]; exact h.cell j hj

/-- the yardstick's slots behind set. -/
theorem done_f {B A : Nat → Value} {mm bb qq : Nat → Nat} (h : Done B 19 mm bb qq (upd (recN A 64) 0 (.bool false))) (k : Nat) (hk : k < 64) : B (58 + k * 3) = .int .i64 (-1) := by
  rw [h.o _ (by omega)]; unfold upd; rw [if_neg (by omega), recN_f A k hk]
theorem done_x {B A : Nat → Value} {mm bb qq : Nat → Nat} (h : Done B 19 mm bb qq (upd (recN A 64) 0 (.bool false))) (k : Nat) : B (58 + k * 3 + 1) = A (58 + k * 3 + 1) := by
  rw [h.o _ (by omega)]; unfold upd; rw [if_neg (by omega), recN_x A k]
theorem done_t {B A : Nat → Value} {mm bb qq : Nat → Nat} (h : Done B 19 mm bb qq (upd (recN A 64) 0 (.bool false))) (k : Nat) : B (58 + k * 3 + 2) = A (58 + k * 3 + 2) := by
  rw [h.o _ (by omega)]; unfold upd; rw [if_neg (by omega), recN_t A k]
theorem done_0 {B A : Nat → Value} {mm bb qq : Nat → Nat} (h : Done B 19 mm bb qq (upd (recN A 64) 0 (.bool false))) : B 0 = .bool false := by
  rw [h.o _ (by omega)]; unfold upd; rw [if_pos rfl]
theorem sim_any (a : Nat) : ∃ o, Sim o a := by
  by_cases h : Nn a
  · exact ⟨some a, rfl, h⟩
  · exact ⟨none, h⟩
theorem eq_self (a : Nat) (w : World) : Calls Ybad.prog 8 #[.float .f64 a, .float .f64 a] w fun e w' => e = .returned (.bool true) ∧ w' = w := by
  obtain ⟨o, h⟩ := sim_any a
  exact eq_any o a a h h w
theorem flt_below (d : Int) (n r : Nat) (hn : n < 20) (hr : floatBits .quo .f64 (floatOfInt .f64 d) (floatOfInt .f64 (p10 n)) = some r) (w : World) :
    Calls Ybad.prog 7 #[.agg #[.int .u64 d, .int .u8 n]] w fun e w' => e = .returned (.float .f64 r) ∧ Below w.heap.size w w' := by
  refine (flt_any d n r hn hr w).mono ?_
  rintro en w' ⟨rfl, c, rfl⟩
  exact ⟨rfl, below_alloc w _⟩
end Go.Proofs.YbulkdhacDoor
