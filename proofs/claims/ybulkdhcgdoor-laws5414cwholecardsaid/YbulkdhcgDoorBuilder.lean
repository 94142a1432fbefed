/-
  strings.Builder: copyCheck, Write, String at this program.
-/
import Derived.Test.YbulkdhcgDoorLeaves
import Derived.Lib.Builder
import Derived.Lib.UnsafeStr
import Derived.Laws.AppendOwn
import Derived.Laws.Externs
import Derived.OwnWalk
import Derived.BigRegion
import Derived.RegionTactic
namespace Go.Proofs.YbulkdhcgDoor
open Go.RowKit

/-- what a write to the builder in block b may turn: b and rows of bytes from B on. -/
def BKeep (B b : Nat) (w w' : World) : Prop := ∀ K : Nat → Obj → Prop, (∀ o, ¬ K b o) → (∀ g cur, B ≤ g → ¬ K g (.cells cur 5 (0, 0))) → Kept K w w'
theorem BKeep.refl (B b : Nat) (w : World) : BKeep B b w w := fun K _ _ => Kept.refl K w
theorem BKeep.trans {B b : Nat} {w1 w2 w3 : World} (h : BKeep B b w1 w2) (k : BKeep B b w2 w3) : BKeep B b w1 w3 := fun K h1 h2 => (h K h1 h2).trans (k K h1 h2)

theorem info101 : (Ybad.prog.info? 101).map (·.size) = some 2 := by kernel_rfl
theorem info5 : (Ybad.prog.info? 5).map (fun i => (i.zero, i.size, i.bytes)) = some (some (.int .u8 0), 1, 1) := by kernel_rfl

set_option maxHeartbeats 1000000 in
set_option maxRecDepth 100000 in
theorem check_used (b : Nat) (w : World) (h0 : w.cell? ⟨b, 0, none⟩ = some (.pointer (some ⟨b, 0, none⟩))) :
    Calls Ybad.prog 28 #[.pointer (some ⟨b, 0, none⟩)] w fun e w' => e = .returned (.tuple #[]) ∧ w' = w := by
  obtain ⟨j, hj, _⟩ := Option.map_eq_some_iff.1 info101
  go_enter Ybad.func28, Ybad.ntmps28
  go_wp2
  rw [Lib.run_neq_ptr_same w _ Ybad.underlying99 hj]
  go_wp2
  go_end0
  exact ⟨rfl, rfl⟩

set_option maxHeartbeats 1000000 in
set_option maxRecDepth 100000 in
theorem check_fresh (b : Nat) (w : World) (h0 : w.cell? ⟨b, 0, none⟩ = some (.pointer none)) (hsh : w.shape? b = some (101, 2)) (hfz : w.frozen? ⟨b, 0, none⟩ = false) :
    Calls Ybad.prog 28 #[.pointer (some ⟨b, 0, none⟩)] w fun e w' => e = .returned (.tuple #[]) ∧ w' = w.setCell ⟨b, 0, none⟩ (.pointer (some ⟨b, 0, none⟩)) := by
  obtain ⟨j, hj, hjs⟩ := Option.map_eq_some_iff.1 info101
  go_enter Ybad.func28, Ybad.ntmps28
  go_wp2
  rw [Lib.run_to_unsafe w ⟨b, 0, none⟩ Ybad.underlying99 Ybad.underlying130 hj (by rw [hjs]; decide) hsh (Nat.zero_lt_succ 1)]
  simp only [Result.andThen]
  rw [Oper.upon_value]
  go_wp2
  rw [run_callFunc_extern Ybad.func31 (by kernel_rfl) (by kernel_rfl) (by kernel_rfl) (e := Extern.AbiNoEscape.same) (by kernel_rfl)]
  rw [Lib.run_noEscape]
  simp only [Result.andThen]
  rw [Oper.upon_value]
  go_wp2
  rw [Lib.run_from_unsafe w ⟨b, 0, none⟩ Ybad.underlying130 Ybad.underlying99 hj hsh (by kernel_rfl)]
  simp only [Result.andThen]
  rw [Oper.upon_value]
  go_wp2
  go_end0
  exact ⟨rfl, rfl⟩

theorem check_any (B b : Nat) (bs : List Value) (w : World) (h : Lib.IsBuilder 101 5 B b bs w) :
    Calls Ybad.prog 28 #[.pointer (some ⟨b, 0, none⟩)] w fun e w' => e = .returned (.tuple #[]) ∧ Lib.BuilderAt 101 5 B b (.pointer (some ⟨b, 0, none⟩)) bs w' ∧ BKeep B b w w' := by
  rcases h with h | h
  · refine (check_fresh b w h.cell0 h.shape h.frozen0).mono ?_
    rintro e w' ⟨rfl, rfl⟩
    exact ⟨rfl, h.used _, fun K h1 _ => Kept.setCell w _ _ (fun o _ => h1 o)⟩
  · refine (check_used b w h.cell0).mono ?_
    rintro e w' ⟨rfl, rfl⟩
    exact ⟨rfl, h, BKeep.refl _ _ _⟩

set_option maxHeartbeats 2000000 in
set_option maxRecDepth 100000 in
theorem write_any (B b : Nat) (bs : List Value) (ad : Addr) (m c : Nat) (news : List Value) (w : World) (h : Lib.IsBuilder 101 5 B b bs w)
    (hl : news.length = m) (hnews : ∀ j u, news[j]? = some u → w.cell? (ad.add j) = some u) (hadB : ad.block < B) (h1 : ∀ u ∈ news, u.oneCell' = true)
    (hlen : bs.length + m ≤ 140737488355328) (hBw : B ≤ w.heap.size) :
    Calls Ybad.prog 22 #[.pointer (some ⟨b, 0, none⟩), .slice (some ad) m c] w fun e w' => (∃ v, e = .returned v) ∧ Lib.BuilderAt 101 5 B b (.pointer (some ⟨b, 0, none⟩)) (bs ++ news) w' ∧ BKeep B b w w' := by
  obtain ⟨i0, hi, hz0, hz1, hz2⟩ := info_parts info5
  go_enter Ybad.func22, Ybad.ntmps22
  go_wp2_with (go_at_call 28; refine (check_any B b bs _ h).mono ?_)
  rintro e w1 ⟨rfl, h1', hb1⟩
  have hBb : B ≤ b := h1'.1
  obtain ⟨hB, v, hbk, hown, hne⟩ := h1'
  have c0 : w1.cell? ⟨b, 0, none⟩ = some (.pointer (some ⟨b, 0, none⟩)) := by rw [Lib.cell_of_heap hbk]; rfl
  have c1 : w1.cell? ⟨b, 1, none⟩ = some v := by rw [Lib.cell_of_heap hbk]; rfl
  have hk1 : Kept (fun k _ => k < B) w w1 := hb1 _ (fun _ h => by omega) (fun g _ hg h => by omega)
  have hnews1 : ∀ j u, news[j]? = some u → w1.cell? (ad.add j) = some u := fun j u hj => hk1.cell (p := ad.add j) (fun _ _ => by unfold Addr.add; split <;> exact hadB) (hnews j u hj)
  go_wp2_with (at_builtin; refine wpList_append_own _ rfl _ _ 27 rfl B 5 i0 (.int .u8 0) 1 1 Ybad.underlying27 hi hz0 hz1 hz2 rfl (by decide) _ _ _ rfl hown ad m c news rfl (by omega) hnews1 h1 ?c3 ?c4 ?c5 ?_)
  case c3 => unfold maxLen; omega
  case c4 => omega
  case c5 => have := hk1.size; omega
  intro v' w2 hown' hgrow _
  have hlt : b < w1.heap.size := (Array.getElem?_eq_some_iff.1 hbk).1
  have hb2 : w2.heap[b]? = some (.cells #[.pointer (some ⟨b, 0, none⟩), v] 101 (0, 0)) := by
    rw [hgrow.block b hlt (fun e => hne e.symm)]
    exact hbk
  have d0 : w2.cell? ⟨b, 0, none⟩ = some (.pointer (some ⟨b, 0, none⟩)) := by rw [Lib.cell_of_heap hb2]; rfl
  have d1 : w2.cell? ⟨b, 1, none⟩ = some v := by rw [Lib.cell_of_heap hb2]; rfl
  have f1 : w2.frozen? ⟨b, 1, none⟩ = false := Lib.frozen_of_heap hb2 1
  have HG : Hid (BKeep B b w1 w2) := fun K h1 h2 => Kept.grown hgrow (fun r e o ho => by
    rcases hown.2 with ⟨hv, _⟩ | ⟨g, cap, cur, hv, hg, hgc, _⟩
    · rw [hv] at e; cases e
    · rw [hv] at e; cases e
      rw [hgc] at ho; cases ho
      exact h2 _ _ hg)
  obtain ⟨ao, n', cap, rfl⟩ : ∃ ao n' cap, v' = .slice ao n' cap := by
    rcases hown'.2 with ⟨hv, _⟩ | ⟨g, cap, cur, hv, _⟩
    · exact ⟨_, _, _, hv⟩
    · exact ⟨_, _, _, hv⟩
  have HP : Hid (Lib.BuilderAt 101 5 B b (.pointer (some ⟨b, 0, none⟩)) (bs ++ news) (w2.setCell ⟨b, 1, none⟩ (.slice ao n' cap))) := Lib.BuilderAt.put hBb hb2 (by rw [List.length_append, hl]; exact hown') (by decide)
  clear hown hgrow hnews1 hnews
  go_wp2
  refine bodyPost_ret (v := .tuple #[.int .i64 m, .nilIface]) (by simp [results, Ybad.results22, go_sem]) rfl ⟨⟨_, rfl⟩, HP.out, ?_⟩
  exact (hb1.trans HG.out).trans (fun K h1 _ => Kept.setCell w2 _ _ (fun o _ => h1 o))

theorem freeze_other (w : World) (p : Addr) (n k : Nat) (h : k ≠ p.block) : (w.freeze p n).heap[k]? = w.heap[k]? := by
  unfold World.freeze
  split
  · rfl
  · simp only [Array.getElem?_modify]
    rw [if_neg (fun e => h e.symm)]
theorem freeze_size (w : World) (p : Addr) (n : Nat) : (w.freeze p n).heap.size = w.heap.size := by
  unfold World.freeze
  split
  · rfl
  · simp
theorem str_none (W : World) (q : Option Addr) : (Builtin.unsafeString_ #[124, 3] 9 #[.pointer q, .int .i64 0]).run Ybad.prog W = .ok (.string .empty) W := Lib.run_unsafeString_none W _ _ _ q

set_option maxHeartbeats 2000000 in
set_option maxRecDepth 100000 in
theorem string_full (B b : Nat) (l : List UInt8) (w : World) (h : Lib.IsBuilder 101 5 B b (Lib.byteCells l) w) (h0 : l ≠ []) :
    Calls Ybad.prog 17 #[.pointer (some ⟨b, 0, none⟩)] w fun e w' => e = .returned (.string ⟨l.toArray⟩) ∧ Below B w w' ∧ KeepsOthers w w' := by
  obtain ⟨p, hB, v, hbk, hown, hne⟩ : ∃ p, Lib.BuilderAt 101 5 B b p (Lib.byteCells l) w := by
    rcases h with h | h
    · exact ⟨_, h⟩
    · exact ⟨_, h⟩
  have hl0 : l.length ≠ 0 := by simpa using h0
  rw [Lib.byteCells_length] at hown
  obtain ⟨g, cap, cur, rfl, hbg, hg, hnc, hcm, hcs, htake⟩ : ∃ g cap cur, v = .slice (some ⟨g, 0, none⟩) l.length cap ∧ B ≤ g ∧ w.heap[g]? = some (.cells cur 5 (0, 0)) ∧ l.length ≤ cap ∧ cap ≤ maxLen ∧ cur.size = cap * 1 ∧ cur.toList.take (l.length * 1) = Lib.byteCells l := by
    rcases hown.2 with ⟨_, hz⟩ | ⟨g, cap, cur, hv, r⟩
    · exact absurd hz hl0
    · exact ⟨g, cap, cur, hv, r⟩
  have c1 : w.drew.cell? ⟨b, 1, none⟩ = some (.slice (some ⟨g, 0, none⟩) l.length cap) := by
    have : w.drew.heap[b]? = some (.cells #[p, .slice (some ⟨g, 0, none⟩) l.length cap] 101 (0, 0)) := hbk
    rw [Lib.cell_of_heap this]; rfl
  have hSD : (Builtin.unsafeSliceData_ #[27] 124 #[.slice (some ⟨g, 0, none⟩) l.length cap]).run Ybad.prog w.drew = .ok (.pointer (some ⟨g, 0, none⟩)) w.drew :=
    Lib.run_unsafeSliceData_row _ _ _ _ _ _ (by omega)
  have hUS : (Builtin.unsafeString_ #[124, 3] 9 #[.pointer (some ⟨g, 0, none⟩), .int .i64 l.length]).run Ybad.prog w.drew = .ok (.string ⟨l.toArray⟩) (w.drew.freeze ⟨g, 0, none⟩ l.length) := by
    refine Lib.run_unsafeString_row w.drew 124 3 9 5 Ybad.underlying124 (by kernel_rfl) g cur.size (by have hg' : w.drew.heap[g]? = some (.cells cur 5 (0, 0)) := hg; simp [World.shape?, hg']) l h0 (by omega) (by unfold maxLen at hcm; omega) ?_
    intro j x hx
    have := hown.cells (g := g) rfl j (.int .u8 x.toNat) (by simp [Lib.byteCells, hx])
    exact this
  clear hown htake hne h0
  go_enter Ybad.func17, Ybad.ntmps17
  go_wp2
  go_region
  all_goals (go_wp2; go_ret; exact ⟨rfl, Lib.below_freeze (Below.drew (Below.refl B w)) (p := ⟨g, 0, none⟩) hbg _, by rw [freeze_size]; exact Nat.le_refl _, fun k o hk ho => (freeze_other w.drew ⟨g, 0, none⟩ _ k (fun e => by rw [e, hg] at hk; cases hk; cases ho)).trans hk⟩)

set_option maxHeartbeats 2000000 in
set_option maxRecDepth 100000 in
theorem string_nil (B b : Nat) (p : Value) (w : World) (hbk : w.heap[b]? = some (.cells #[p, .slice none 0 0] 101 (0, 0))) :
    Calls Ybad.prog 17 #[.pointer (some ⟨b, 0, none⟩)] w fun e w' => e = .returned (.string ⟨#[]⟩) ∧ Below B w w' ∧ KeepsOthers w w' := by
  have hUS := str_none
  have c1 : w.drew.cell? ⟨b, 1, none⟩ = some (.slice none 0 0) := by
    have : w.drew.heap[b]? = some (.cells #[p, .slice none 0 0] 101 (0, 0)) := hbk
    rw [Lib.cell_of_heap this]; rfl
  have hSD : (Builtin.unsafeSliceData_ #[27] 124 #[.slice none 0 0]).run Ybad.prog w.drew = .ok (.pointer none) w.drew := rfl
  go_enter Ybad.func17, Ybad.ntmps17
  go_wp2
  go_region
  all_goals (go_wp2; go_ret; exact ⟨rfl, Below.drew (Below.refl B w), Nat.le_refl _, fun _ _ h _ => h⟩)

/-- 'the builder holds its bytes in nothing, or in a row with room': a write has come, or none. -/
theorem string_any (B b : Nat) (l : List UInt8) (p : Value) (w : World) (h : Lib.BuilderAt 101 5 B b p (Lib.byteCells l) w) (hp : p = .pointer none ∨ p = .pointer (some ⟨b, 0, none⟩)) (hn : l = [] → w.heap[b]? = some (.cells #[p, .slice none 0 0] 101 (0, 0))) :
    Calls Ybad.prog 17 #[.pointer (some ⟨b, 0, none⟩)] w fun e w' => e = .returned (.string ⟨l.toArray⟩) ∧ Below B w w' ∧ KeepsOthers w w' := by
  by_cases h0 : l = []
  · subst h0
    exact string_nil B b p w (hn rfl)
  · exact string_full B b l w (by rcases hp with rfl | rfl; exact Or.inl h; exact Or.inr h) h0
end Go.Proofs.YbulkdhcgDoor
