/-
  THE WALKS of LawS5413CWhole: NamedType, isInputType, the law.
-/
import Derived.Test.YbulkdhbsRows
import Derived.WalkKit
import Derived.WalkSpells
import Derived.RowKit3
import Derived.Below
import Derived.Deep.LoopGhost
import Derived.Deep.DeepCutAuto
namespace Go.Proofs.Ybulkdhbs
open Go.RowKit

/-! ### the type switches' questions, one by one -/
theorem as25_47 (v : Value) (w : World) : (Instr.typeAssert (.iface 25 v) 24 47 true).run Yba.prog w = .ok (.tuple #[.pointer none, .bool false]) w := by kernel_rfl
theorem as31_47 (v : Value) (w : World) : (Instr.typeAssert (.iface 31 v) 24 47 true).run Yba.prog w = .ok (.tuple #[.pointer none, .bool false]) w := by kernel_rfl
theorem as35_47 (v : Value) (w : World) : (Instr.typeAssert (.iface 35 v) 24 47 true).run Yba.prog w = .ok (.tuple #[.pointer none, .bool false]) w := by kernel_rfl
theorem as39_47 (v : Value) (w : World) : (Instr.typeAssert (.iface 39 v) 24 47 true).run Yba.prog w = .ok (.tuple #[.pointer none, .bool false]) w := by kernel_rfl
theorem as44_47 (v : Value) (w : World) : (Instr.typeAssert (.iface 44 v) 24 47 true).run Yba.prog w = .ok (.tuple #[.pointer none, .bool false]) w := by kernel_rfl
theorem as47_47 (v : Value) (w : World) : (Instr.typeAssert (.iface 47 v) 24 47 true).run Yba.prog w = .ok (.tuple #[v, .bool true]) w := by kernel_rfl
theorem as50_47 (v : Value) (w : World) : (Instr.typeAssert (.iface 50 v) 24 47 true).run Yba.prog w = .ok (.tuple #[.pointer none, .bool false]) w := by kernel_rfl
theorem asnil_47 (w : World) : (Instr.typeAssert .nilIface 24 47 true).run Yba.prog w = .ok (.tuple #[.pointer none, .bool false]) w := by kernel_rfl
theorem as25_50 (v : Value) (w : World) : (Instr.typeAssert (.iface 25 v) 24 50 true).run Yba.prog w = .ok (.tuple #[.pointer none, .bool false]) w := by kernel_rfl
theorem as31_50 (v : Value) (w : World) : (Instr.typeAssert (.iface 31 v) 24 50 true).run Yba.prog w = .ok (.tuple #[.pointer none, .bool false]) w := by kernel_rfl
theorem as35_50 (v : Value) (w : World) : (Instr.typeAssert (.iface 35 v) 24 50 true).run Yba.prog w = .ok (.tuple #[.pointer none, .bool false]) w := by kernel_rfl
theorem as39_50 (v : Value) (w : World) : (Instr.typeAssert (.iface 39 v) 24 50 true).run Yba.prog w = .ok (.tuple #[.pointer none, .bool false]) w := by kernel_rfl
theorem as44_50 (v : Value) (w : World) : (Instr.typeAssert (.iface 44 v) 24 50 true).run Yba.prog w = .ok (.tuple #[.pointer none, .bool false]) w := by kernel_rfl
theorem as47_50 (v : Value) (w : World) : (Instr.typeAssert (.iface 47 v) 24 50 true).run Yba.prog w = .ok (.tuple #[.pointer none, .bool false]) w := by kernel_rfl
theorem as50_50 (v : Value) (w : World) : (Instr.typeAssert (.iface 50 v) 24 50 true).run Yba.prog w = .ok (.tuple #[v, .bool true]) w := by kernel_rfl
theorem asnil_50 (w : World) : (Instr.typeAssert .nilIface 24 50 true).run Yba.prog w = .ok (.tuple #[.pointer none, .bool false]) w := by kernel_rfl
theorem as25_25 (v : Value) (w : World) : (Instr.typeAssert (.iface 25 v) 24 25 true).run Yba.prog w = .ok (.tuple #[v, .bool true]) w := by kernel_rfl
theorem as31_25 (v : Value) (w : World) : (Instr.typeAssert (.iface 31 v) 24 25 true).run Yba.prog w = .ok (.tuple #[.pointer none, .bool false]) w := by kernel_rfl
theorem as35_25 (v : Value) (w : World) : (Instr.typeAssert (.iface 35 v) 24 25 true).run Yba.prog w = .ok (.tuple #[.pointer none, .bool false]) w := by kernel_rfl
theorem as39_25 (v : Value) (w : World) : (Instr.typeAssert (.iface 39 v) 24 25 true).run Yba.prog w = .ok (.tuple #[.pointer none, .bool false]) w := by kernel_rfl
theorem as44_25 (v : Value) (w : World) : (Instr.typeAssert (.iface 44 v) 24 25 true).run Yba.prog w = .ok (.tuple #[.pointer none, .bool false]) w := by kernel_rfl
theorem as47_25 (v : Value) (w : World) : (Instr.typeAssert (.iface 47 v) 24 25 true).run Yba.prog w = .ok (.tuple #[.pointer none, .bool false]) w := by kernel_rfl
theorem as50_25 (v : Value) (w : World) : (Instr.typeAssert (.iface 50 v) 24 25 true).run Yba.prog w = .ok (.tuple #[.pointer none, .bool false]) w := by kernel_rfl
theorem asnil_25 (w : World) : (Instr.typeAssert .nilIface 24 25 true).run Yba.prog w = .ok (.tuple #[.pointer none, .bool false]) w := by kernel_rfl
theorem as25_31 (v : Value) (w : World) : (Instr.typeAssert (.iface 25 v) 24 31 true).run Yba.prog w = .ok (.tuple #[.pointer none, .bool false]) w := by kernel_rfl
theorem as31_31 (v : Value) (w : World) : (Instr.typeAssert (.iface 31 v) 24 31 true).run Yba.prog w = .ok (.tuple #[v, .bool true]) w := by kernel_rfl
theorem as35_31 (v : Value) (w : World) : (Instr.typeAssert (.iface 35 v) 24 31 true).run Yba.prog w = .ok (.tuple #[.pointer none, .bool false]) w := by kernel_rfl
theorem as39_31 (v : Value) (w : World) : (Instr.typeAssert (.iface 39 v) 24 31 true).run Yba.prog w = .ok (.tuple #[.pointer none, .bool false]) w := by kernel_rfl
theorem as44_31 (v : Value) (w : World) : (Instr.typeAssert (.iface 44 v) 24 31 true).run Yba.prog w = .ok (.tuple #[.pointer none, .bool false]) w := by kernel_rfl
theorem as47_31 (v : Value) (w : World) : (Instr.typeAssert (.iface 47 v) 24 31 true).run Yba.prog w = .ok (.tuple #[.pointer none, .bool false]) w := by kernel_rfl
theorem as50_31 (v : Value) (w : World) : (Instr.typeAssert (.iface 50 v) 24 31 true).run Yba.prog w = .ok (.tuple #[.pointer none, .bool false]) w := by kernel_rfl
theorem asnil_31 (w : World) : (Instr.typeAssert .nilIface 24 31 true).run Yba.prog w = .ok (.tuple #[.pointer none, .bool false]) w := by kernel_rfl
theorem as25_35 (v : Value) (w : World) : (Instr.typeAssert (.iface 25 v) 24 35 true).run Yba.prog w = .ok (.tuple #[.pointer none, .bool false]) w := by kernel_rfl
theorem as31_35 (v : Value) (w : World) : (Instr.typeAssert (.iface 31 v) 24 35 true).run Yba.prog w = .ok (.tuple #[.pointer none, .bool false]) w := by kernel_rfl
theorem as35_35 (v : Value) (w : World) : (Instr.typeAssert (.iface 35 v) 24 35 true).run Yba.prog w = .ok (.tuple #[v, .bool true]) w := by kernel_rfl
theorem as39_35 (v : Value) (w : World) : (Instr.typeAssert (.iface 39 v) 24 35 true).run Yba.prog w = .ok (.tuple #[.pointer none, .bool false]) w := by kernel_rfl
theorem as44_35 (v : Value) (w : World) : (Instr.typeAssert (.iface 44 v) 24 35 true).run Yba.prog w = .ok (.tuple #[.pointer none, .bool false]) w := by kernel_rfl
theorem as47_35 (v : Value) (w : World) : (Instr.typeAssert (.iface 47 v) 24 35 true).run Yba.prog w = .ok (.tuple #[.pointer none, .bool false]) w := by kernel_rfl
theorem as50_35 (v : Value) (w : World) : (Instr.typeAssert (.iface 50 v) 24 35 true).run Yba.prog w = .ok (.tuple #[.pointer none, .bool false]) w := by kernel_rfl
theorem asnil_35 (w : World) : (Instr.typeAssert .nilIface 24 35 true).run Yba.prog w = .ok (.tuple #[.pointer none, .bool false]) w := by kernel_rfl
attribute [local go_sem] as25_47 as31_47 as35_47 as39_47 as44_47 as47_47 as50_47 asnil_47 as25_50 as31_50 as35_50 as39_50 as44_50 as47_50 as50_50 asnil_50 as25_25 as31_25 as35_25 as39_25 as44_25 as47_25 as50_25 asnil_25 as25_31 as31_31 as35_31 as39_31 as44_31 as47_31 as50_31 asnil_31 as25_35 as31_35 as35_35 as39_35 as44_35 as47_35 as50_35 asnil_35

/-- n wrappers (a List, a NonNull) round 'base', in memory. -/
def Chain (w : World) (base : Value) : Nat → Value → Prop
  | 0, v => v = base
  | n + 1, v => ∃ t b u, (t = 47 ∨ t = 50) ∧ v = .iface t (.pointer (some ⟨b, 0, none⟩)) ∧ w.cell? ⟨b, 0, none⟩ = some u ∧ Chain w base n u

theorem Chain.kept {w w' : World} {base : Value} (h : ∀ a v, w.cell? a = some v → w'.cell? a = some v) : ∀ (n : Nat) (v : Value), Chain w base n v → Chain w' base n v
  | 0, _, hc => hc
  | n + 1, _, ⟨t, b, u, ht, hv, hu, hc⟩ => ⟨t, b, u, ht, hv, h _ _ hu, Chain.kept h n u hc⟩
theorem cell_alloc {w : World} (o : Obj) (a : Addr) (v : Value) (h : w.cell? a = some v) : (w.alloc o).cell? a = some v := by
  rw [World.cell?_alloc_lt _ _ _ (World.block_lt_of_cell? w a h)]; exact h
theorem Chain.wrap {w : World} {base : Value} {n : Nat} {v : Value} (h : Chain w base n v) (t T : TypeId) (ht : t = 47 ∨ t = 50) :
    Chain (w.alloc (.cells #[v] T)) base (n + 1) (.iface t (.pointer (some ⟨w.heap.size, 0, none⟩))) :=
  ⟨t, w.heap.size, v, ht, rfl, by simp, Chain.kept (cell_alloc _) n v h⟩

/-- what the innermost type may be, and the law's answer. -/
def IsBase (v : Value) (b : Bool) : Prop :=
  (b = true ∧ ∃ t p, (t = 25 ∨ t = 31 ∨ t = 35) ∧ v = .iface t (.pointer p)) ∨ (b = false ∧ (v = .nilIface ∨ ∃ t p, (t = 39 ∨ t = 44) ∧ v = .iface t (.pointer p)))

set_option maxHeartbeats 400000 in
theorem named_any (n : Nat) (v base : Value) (b : Bool) (hb : IsBase base b) (w : World) (h : Chain w base n v) :
    Calls Yba.prog 5 #[v] w fun e w' => e = .returned base ∧ w' = w := by
  go_enter Yba.func5, Yba.ntmps5
  go_wp2
  go_loopg [0] n (fun k u wr => wr = w ∧ Chain w base k u)
  case atStart => exact ⟨rfl, h⟩
  case round =>
    obtain ⟨rfl, hc⟩ := hrel
    cases gk with
    | zero =>
      have hc' : u0 = base := hc
      subst hc'
      clear hc h
      rcases hb with ⟨rfl, t, p, ht, rfl⟩ | ⟨rfl, rfl | ⟨t, p, ht, rfl⟩⟩
      · rcases ht with rfl | rfl | rfl
        all_goals
          go_wp2
          go_ret
          exact ⟨rfl, rfl⟩
      · go_wp2
        go_ret
        exact ⟨rfl, rfl⟩
      · rcases ht with rfl | rfl
        all_goals
          go_wp2
          go_ret
          exact ⟨rfl, rfl⟩
    | succ k =>
      obtain ⟨t, b', u, ht, rfl, hu, hc⟩ := hc
      have HC : Hid (Chain wr base k u) := hc
      clear hc h hb
      rcases ht with rfl | rfl
      all_goals
        go_wp2
        go_roundg k
        case measure => omega
        case rel => exact ⟨rfl, HC.out⟩

set_option maxHeartbeats 400000 in
theorem input_any (n : Nat) (v base : Value) (b : Bool) (hb : IsBase base b) (w : World) (h : Chain w base n v) :
    Calls Yba.prog 4 #[v] w fun e w' => e = .returned (.bool b) ∧ w' = w := by
  have HN : Hid (Calls Yba.prog 5 #[v] w fun e w' => e = .returned base ∧ w' = w) := named_any n v base b hb w h
  clear h
  go_enter Yba.func4, Yba.ntmps4
  go_wp2_with fail
  refine HN.out.mono ?_
  rintro e w' ⟨rfl, rfl⟩
  clear HN
  rcases hb with ⟨rfl, t, p, ht, rfl⟩ | ⟨rfl, rfl | ⟨t, p, ht, rfl⟩⟩
  · rcases ht with rfl | rfl | rfl
    all_goals
      go_wp2
      go_ret
      exact ⟨rfl, rfl⟩
  · go_wp2
    go_ret
    exact ⟨rfl, rfl⟩
  · rcases ht with rfl | rfl
    all_goals
      go_wp2
      go_ret
      exact ⟨rfl, rfl⟩
end Go.Proofs.Ybulkdhbs
