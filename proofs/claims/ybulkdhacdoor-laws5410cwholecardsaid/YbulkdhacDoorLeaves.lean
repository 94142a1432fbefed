/-
  THE LEAVES of LawS5410CWhole's road: each callee's contract.
-/
import Derived.Test.YbulkdhacDoorRows
import Derived.Test.YbulkdhacDoorFloats
import Derived.WalkKit
import Derived.WalkSpells
import Derived.RowKit3
import Derived.Deep.QuietTactic
import Derived.BigQuiet
import Derived.Laws.Cover2
namespace Go.Proofs.YbulkdhacDoor
open Go.RowKit Floats

/-! ### the three functions without a body -/
theorem bits_run (x : Nat) (w : World) : (callFunc 12 #[.float .f64 x]).run Ybad.prog w = .ok (.value (.int .u64 x)) w := by
  rw [run_callFunc_extern (P := Ybad.prog) (f := 12) (fn := Ybad.f12) (e := Extern.MathFloatBits.float64bits) Ybad.func12 (by kernel_rfl) (by kernel_rfl) (by kernel_rfl) (by kernel_rfl)]
  rfl
theorem frombits_run (x : Int) (w : World) : (callFunc 13 #[.int .u64 x]).run Ybad.prog w = .ok (.value (.float .f64 x.toNat)) w := by
  rw [run_callFunc_extern (P := Ybad.prog) (f := 13) (fn := Ybad.f13) (e := Extern.MathFloatBits.float64frombits) Ybad.func13 (by kernel_rfl) (by kernel_rfl) (by kernel_rfl) (by kernel_rfl)]
  rfl
theorem log_run (x : Nat) (w : World) : ∃ r n, (callFunc 14 #[.float .f64 x]).run Ybad.prog w = .ok (.value (.float .f64 r)) (w.drewN n) ∧ Sim (logO x) r := by
  obtain ⟨r, n, hr, hs⟩ := archLog_runs x Ybad.prog w
  refine ⟨r, n, ?_, hs⟩
  rw [run_callFunc_extern (P := Ybad.prog) (f := 14) (fn := Ybad.f14) (e := Extern.MathLog.archLog) Ybad.func14 (by kernel_rfl) (by kernel_rfl) (by kernel_rfl) (by kernel_rfl), hr]
  rfl

theorem num_any (d p : Int) (p0 : 0 ≤ p) (p1 : p ≤ 255) (w : World) :
    Calls Ybad.prog 4 #[.int .u64 d, .int .u8 p] w fun e w' => e = .returned (.agg #[.int .u64 d, .int .u8 (p % 20)]) ∧ ∃ c : Array Value, w' = w.alloc (.cells c 42) := by
  go_enter Ybad.func4, Ybad.ntmps4
  go_wp2
  exact bodyPost_ret (v := .agg #[.int .u64 d, .int .u8 (p % 20)]) (by simp [results, Ybad.results4, go_sem]) rfl ⟨rfl, _, rfl⟩

theorem same_any (a : Nat) (w : World) :
    Calls Ybad.prog 6 #[.float .f64 a, .float .f64 a] w fun e w' => e = .returned (.bool true) ∧ w' = w := by
  have hb := bits_run a
  go_enter Ybad.func6, Ybad.ntmps6
  go_wp2
  go_ret
  exact ⟨rfl, rfl⟩

theorem log_any (x : Nat) (w : World) :
    Calls Ybad.prog 10 #[.float .f64 x] w fun e w' => ∃ r n, e = .returned (.float .f64 r) ∧ Sim (logO x) r ∧ w' = w.drewN n := by
  obtain ⟨r, n, hr, hs⟩ := log_run x w
  have HS : Hid (Sim (logO x) r) := hs
  clear hs
  go_enter Ybad.func10, Ybad.ntmps10
  go_wp2
  go_ret
  exact ⟨r, n, rfl, HS.out, rfl⟩

theorem abs_any (x : Nat) (w : World) :
    Calls Ybad.prog 9 #[.float .f64 x] w fun e w' => e = .returned (.float .f64 (absB x)) ∧ w' = w := by
  have hb := bits_run x
  have hf := frombits_run
  go_enter Ybad.func9, Ybad.ntmps9
  go_wp2
  go_ret
  exact ⟨by rw [← abs_bits]; rfl, rfl⟩

theorem eq_any (o : Option Nat) (a b : Nat) (h1 : Sim o a) (h2 : Sim o b) (w : World) :
    Calls Ybad.prog 8 #[.float .f64 a, .float .f64 b] w fun e w' => e = .returned (.bool true) ∧ w' = w := by
  cases o with
  | some v =>
    obtain ⟨rfl, hv⟩ := h1
    obtain ⟨rfl, _⟩ := h2
    have e1 : (FloatKind.f64.format.order b b == some .eq) = true := by rw [order_self hv]; rfl
    clear hv
    go_enter Ybad.func8, Ybad.ntmps8
    go_wp2
    go_ret
    exact ⟨rfl, rfl⟩
  | none =>
    have e1 : (FloatKind.f64.format.order a b == some .eq) = false := by rw [order_nan h1]; rfl
    have e2 : (FloatKind.f64.format.order a a != some .eq) = true := by rw [order_nan h1]; rfl
    have e3 : (FloatKind.f64.format.order b b != some .eq) = true := by rw [order_nan h2]; rfl
    clear h1 h2
    go_enter Ybad.func8, Ybad.ntmps8
    go_wp2
    go_ret
    exact ⟨rfl, rfl⟩

set_option maxHeartbeats 400000 in
theorem flt_any (d : Int) (n r : Nat) (hn : n < 20) (hr : floatBits .quo .f64 (floatOfInt .f64 d) (floatOfInt .f64 (p10 n)) = some r) (w : World) :
    Calls Ybad.prog 7 #[.agg #[.int .u64 d, .int .u8 n]] w fun e w' => e = .returned (.float .f64 r) ∧ ∃ c : Array Value, w' = w.alloc (.cells c 42) := by
  have hq := fun w => run_float_arith (P := Ybad.prog) w .quo 22 .f64 _ _ _ hr
  have HQ : Hid (∀ w, (binOp .quo 22 (.float .f64 (floatOfInt .f64 d)) (.float .f64 (floatOfInt .f64 (p10 n)))).run Ybad.prog w = .ok (.float .f64 r) w) := hq
  clear hq hr
  go_enter Ybad.func7, Ybad.ntmps7
  go_wp2
  go_loop [3, 4] (fun p i => ∃ j : Nat, j ≤ n ∧ i = .int .i64 j ∧ p = .int .u64 (p10 j)) (fun _ i => n - (intOf i).toNat)
  case atStart => exact ⟨0, Nat.zero_le _, rfl, rfl⟩
  case round =>
    obtain ⟨j, hj, rfl, rfl⟩ := hrel
    by_cases hlt : j < n
    · have b0 := p10_pos j
      have b1 := p10_le (j + 1) (by omega)
      have HS : Hid (p10 (j + 1) = p10 j * 10) := p10_succ j
      have b2 : p10 j * 10 ≤ 10000000000000000000 := by rw [← HS.out]; exact b1
      clear b1
      go_wp2
      go_round
      case rel => exact ⟨j + 1, by omega, by go_num, by rw [HS.out]⟩
      case measure => simp [intOf]; omega
    · obtain rfl : j = n := by omega
      have hq := HQ.out
      go_wp2
      go_ret
      exact ⟨rfl, _, rfl⟩

/-- the table of powers lies in block 1. -/
structure Pow (w : World) : Prop where
  size : 1 < w.heap.size
  cell : ∀ j, j < 20 → w.cell? ⟨1, j, none⟩ = some (.int .u64 (p10 j))
theorem Pow.alloc {w : World} (h : Pow w) (o : Obj) : Pow (w.alloc o) :=
  ⟨by have := h.size; rw [World.size_alloc]; omega, fun j hj => by rw [World.cell?_alloc_past _ _ _ h.size]; exact h.cell j hj⟩
theorem Pow.drewN {w : World} (h : Pow w) (n : Nat) : Pow (w.drewN n) := ⟨h.size, h.cell⟩
theorem Pow.drew {w : World} (h : Pow w) : Pow w.drew := ⟨h.size, h.cell⟩

set_option maxHeartbeats 400000 in
theorem float_any (d : Int) (n r : Nat) (hn : n < 20) (hr : floatBits .quo .f64 (floatOfInt .f64 d) (floatOfInt .f64 (p10 n)) = some r) (w : World) (hp : Pow w) :
    Calls Ybad.prog 16 #[.agg #[.int .u64 d, .int .u8 n]] w fun e w' => e = .returned (.float .f64 r) ∧ ∃ (c : Array Value) (k : Nat), w' = (w.alloc (.cells c 42)).drewN k := by
  have hq := fun w => run_float_arith (P := Ybad.prog) w .quo 22 .f64 _ _ _ hr
  clear hr
  have hi : (n : Int) < 20 := by omega
  have hw := hp.size
  have hc := hp.cell n hn
  clear hp
  go_enter Ybad.func16, Ybad.ntmps16
  go_wp2
  go_quiet (fail)
  go_wp2
  go_ret
  exact ⟨rfl, _, _, rfl⟩
end Go.Proofs.YbulkdhacDoor
