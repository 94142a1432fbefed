/-
  The figures as the list of their bits.
-/
import Derived.Test.YbulkdhacDoorFigures
import Derived.Test.YbulkdhacDoorSet
namespace Go.Proofs.YbulkdhacDoor
open Go.RowKit Floats
theorem fl_list (y0 y1 y2 y3 y4 y5 y6 y7 y8 y9 y10 y11 y12 y13 y14 y15 y16 y17 y18 : Nat) : fl [y0, y1, y2, y3, y4, y5, y6, y7, y8, y9, y10, y11, y12, y13, y14, y15, y16, y17, y18] = #[.float .f64 y0, .float .f64 y1, .float .f64 y2, .float .f64 y3, .float .f64 y4, .float .f64 y5, .float .f64 y6, .float .f64 y7, .float .f64 y8, .float .f64 y9, .float .f64 y10, .float .f64 y11, .float .f64 y12, .float .f64 y13, .float .f64 y14, .float .f64 y15, .float .f64 y16, .float .f64 y17, .float .f64 y18] := rfl
theorem len_list (y0 y1 y2 y3 y4 y5 y6 y7 y8 y9 y10 y11 y12 y13 y14 y15 y16 y17 y18 : Nat) : [y0, y1, y2, y3, y4, y5, y6, y7, y8, y9, y10, y11, y12, y13, y14, y15, y16, y17, y18].length = 19 := rfl
theorem figs_fl (e : Ev) (r0 r1 r2 r3 r4 r5 r6 r7 r8 : Nat) : e.figs r0 r1 r2 r3 r4 r5 r6 r7 r8 = fl [floatOfInt .f64 e.N, r0, floatOfInt .f64 e.G, r1, r2, r3, r4, r5, r6, r7, r8, floatOfInt .f64 e.x0, floatOfInt .f64 e.x1, floatOfInt .f64 e.x2, floatOfInt .f64 e.x3, floatOfInt .f64 e.x4, floatOfInt .f64 e.x5, scanB e.sc, floatOfInt .f64 e.Pr] := by
  unfold Ev.figs
  exact (fl_list _ _ _ _ _ _ _ _ _ _ _ _ _ _ _ _ _ _ _).symm
theorem figures_fl (e : Ev) (r0 r1 r2 r3 r4 r5 r6 r7 r8 : Nat) (hq : e.Quo r0 r1 r2 r3 r4 r5 r6 r7 r8) (hf : e.Fit) (b : Nat) (w : World) (hp : Pow w) (hb : b < w.heap.size) (he : e.At w b) (L : List Nat) (hL : L = [floatOfInt .f64 e.N, r0, floatOfInt .f64 e.G, r1, r2, r3, r4, r5, r6, r7, r8, floatOfInt .f64 e.x0, floatOfInt .f64 e.x1, floatOfInt .f64 e.x2, floatOfInt .f64 e.x3, floatOfInt .f64 e.x4, floatOfInt .f64 e.x5, scanB e.sc, floatOfInt .f64 e.Pr]) :
    Calls Ybad.prog 11 #[.pointer (some ⟨b, 0, none⟩)] w fun en w' => en = .returned (.agg (fl L)) ∧ Below w.heap.size w w' := by
  rw [hL, ← figs_fl]
  exact figures_any e r0 r1 r2 r3 r4 r5 r6 r7 r8 hq hf b w hp hb he
end Go.Proofs.YbulkdhacDoor
