/-
  chunked.push into an empty row.
-/
import Derived.Test.YbulkdhcgDoorPush
namespace Go.Proofs.YbulkdhcgDoor
open Go.RowKit

theorem run_make8 : ∃ Z : Array Value, Z.size = 144 ∧ ∀ w : World, (Instr.makeSlice 95 (.int .i64 0) (.int .i64 8)).run Ybad.prog w = .ok (.slice (some ⟨w.heap.size, 0, none⟩) 0 8) (w.alloc (.cells Z 68)) := by
  obtain ⟨i1, hi1, hz1, hz2, hz3⟩ := info_parts info68
  refine ⟨madeCells (Value.cells (.agg (r18 (.int .u32 0) (.int .u32 0) (.int .u32 0)).toArray)) 144, size_madeCells _ _, fun w => ?_⟩
  have := run_make (P := Ybad.prog) w 95 68 i1 _ Ybad.underlying95 hi1 hz1 .i64 .i64 0 8 (by omega) (by omega) (by rw [hz3]; omega) (by omega)
  rw [hz2] at this
  exact this

/-- behind the make and the append: one chunk, empty. -/
def Mid1 (w : World) (C bt bx : Nat) (W : World) : Prop :=
  (∃ c0, RunsAt W C bt (w.heap.size + 2) c0 w.heap.size 8 0 []) ∧ XFr w W (fun k => k = bt) ∧ (∀ j, j ≠ 0 → W.cell? ⟨bt, j, none⟩ = w.cell? ⟨bt, j, none⟩) ∧ (∀ j, W.frozen? ⟨bt, j, none⟩ = w.frozen? ⟨bt, j, none⟩) ∧ bx < w.heap.size

theorem two_new (V : World) (Z : Array Value) (cs : Array Value) (T T' : TypeId) : ((V.drew.alloc (.cells Z T)).alloc (.cells cs T')).heap[V.heap.size + 1]? = some (.cells cs T') ∧ ((V.drew.alloc (.cells Z T)).alloc (.cells cs T')).heap[V.heap.size]? = some (.cells Z T) ∧ ((V.drew.alloc (.cells Z T)).alloc (.cells cs T')).heap.size = V.heap.size + 2 := by
  have h1 : (V.drew.alloc (.cells Z T)).heap.size = V.heap.size + 1 := World.size_alloc _ _
  refine ⟨?_, ?_, ?_⟩
  · have := World.alloc_heap_new (V.drew.alloc (.cells Z T)) (.cells cs T')
    rw [h1] at this; exact this
  · rw [Below.heap_alloc _ _ _ (by rw [h1]; omega)]; exact World.alloc_heap_new V.drew _
  · rw [World.size_alloc, h1]
theorem two_old (V : World) (o o' : Obj) {k : Nat} (h : k < V.heap.size) : ((V.drew.alloc o).alloc o').heap[k]? = V.heap[k]? := by
  rw [Below.heap_alloc _ _ _ (by rw [World.size_alloc]; show k < V.heap.size + 1; omega)]; exact Below.heap_alloc V.drew _ _ h

theorem mid1_done {V W1 : World} {C bt bx c0 : Nat} (Z : Array Value) {cs : Array Value} {T' : TypeId} (hbt : bt < C) (hbx : bx < V.heap.size) (hown : W1.ownsRow C 95 1 (.slice (some ⟨V.heap.size + 2, 0, none⟩) 1 c0) 1 [.slice (some ⟨V.heap.size, 0, none⟩) 0 8]) (hg : ((V.drew.alloc (.cells Z 68)).alloc (.cells cs T')).grownBy W1 none) (hlt : V.heap.size + 2 < W1.heap.size) (hC : C ≤ V.heap.size)
    (hc : (∃ v, V.cell? ⟨bt, 0, none⟩ = some v) ∧ V.frozen? ⟨bt, 0, none⟩ = false) (hZ : Z.size = 144) : Mid1 V C bt bx (W1.setCell ⟨bt, 0, none⟩ (.slice (some ⟨V.heap.size + 2, 0, none⟩) 1 c0)) := by
  obtain ⟨n1, n2, n3⟩ := two_new V Z cs 68 T'
  have hblk : ∀ k, k < V.heap.size → W1.heap[k]? = V.heap[k]? := fun k hk => (hg.block k (by rw [n3]; omega) (fun e => by cases e)).trans (two_old V _ _ hk)
  have hnew : W1.heap[V.heap.size]? = some (.cells Z 68) := (hg.block _ (by rw [n3]; omega) (fun e => by cases e)).trans n2
  have hne : ∀ j k b, b ≠ bt → (⟨bt, k, none⟩ : Addr) ≠ ⟨b, j, none⟩ := fun j k b h e => h (congrArg Addr.block e).symm
  have hbtV : bt < V.heap.size := by omega
  refine ⟨⟨c0, ?_, ?_, ?_, ?_, by omega, ?_, by omega, hbt, ?_⟩, ?_, fun j hj => ?_, fun j => ?_, hbx⟩
  · obtain ⟨v, hv⟩ := hc.1
    exact World.cell?_setCell_same _ _ _ ((World.cell?_of_block (w := V) (hblk bt hbtV)).trans hv)
  · rw [World.cell?_setCell_other _ _ _ _ (hne _ _ _ (by omega))]
    have := hown.cells (g := V.heap.size + 2) rfl 0 (.slice (some ⟨V.heap.size, 0, none⟩) 0 8) rfl
    rw [Addr.add_mid] at this
    exact this
  · rw [World.frozen?_setCell]
    rcases hown.2 with ⟨h1, _⟩ | ⟨g, cap, cur, h1, _, h2, _⟩
    · cases h1
    · cases h1
      unfold World.frozen?
      simp only [h2]
      rfl
  · have : W1.ownsRow C 68 18 (.slice (some ⟨V.heap.size, 0, none⟩) 0 8) 0 [] := ⟨rfl, Or.inr ⟨V.heap.size, 8, Z, rfl, hC, hnew, by omega, by unfold maxLen; omega, hZ, by simp⟩⟩
    exact this.kept (grown_set W1 bt 0 _) (Or.inr (fun e => by have e2 : V.heap.size = bt := Option.some.inj e; omega))
  · show V.heap.size + 2 < (W1.heap.modify _ _).size
    rw [Array.size_modify]; exact hlt
  · show C ≤ (W1.heap.modify _ _).size
    rw [Array.size_modify]; omega
  · have h2 : XFr V W1 (fun k => k = bt) := ⟨hg.os, hg.tape, hg.output, by omega, fun k hk _ => hblk k hk⟩
    exact h2.set bt 0 _ (Or.inl rfl)
  · rw [World.cell?_setCell_other _ _ _ _ (fun e => hj (by cases e; rfl))]
    exact World.cell?_of_block (w := V) (hblk bt hbtV)
  · rw [World.frozen?_setCell]
    exact World.frozen?_of_block (w := V) (hblk bt hbtV)

/-- what the first push leaves. -/
def Push1Post (w : World) (C bt : Nat) (cs : List Value) (w' : World) : Prop :=
  ∃ bc c0 g cap, RunsAt w' C bt bc c0 g cap 1 cs ∧ XFr w w' (fun k => k = bt) ∧ (∀ j, j ≠ 0 → w'.cell? ⟨bt, j, none⟩ = w.cell? ⟨bt, j, none⟩) ∧ ∀ j, w'.frozen? ⟨bt, j, none⟩ = w.frozen? ⟨bt, j, none⟩

set_option maxRecDepth 100000 in
set_option maxHeartbeats 4000000 in
theorem push_first (w : World) (C bt : Nat) (cs : List Value) (hcs : cs.length = 18) (h1c : ∀ v ∈ cs, v.oneCell' = true) (hbt : bt < C) (hC : C ≤ w.heap.size) (c1 : w.cell? ⟨bt, 0, none⟩ = some (.slice none 0 0)) (f1 : w.frozen? ⟨bt, 0, none⟩ = false) :
    Calls Ybad.prog 6 #[.pointer (some ⟨bt, 0, none⟩), .agg cs.toArray] w fun e w' => (∃ v, e = .returned v) ∧ Push1Post w C bt cs w' := by
  obtain ⟨Z, hZ, hmk⟩ := run_make8
  have HOZ : Hid (Z.size = 144) := hZ
  have hbw : bt < w.heap.size := by omega
  go_enter Ybad.func6, Ybad.ntmps6
  go_wp2_with fail
  obtain ⟨V, hV⟩ : ∃ V, V = w.alloc (.cells cs.toArray 68) := ⟨_, rfl⟩
  have hVs : V.heap.size = w.heap.size + 1 := by rw [hV]; exact World.size_alloc _ _
  have hVb : V.heap[bt]? = w.heap[bt]? := by rw [hV]; exact Below.heap_alloc w _ _ hbw
  have HVX : Hid (XFr w V (fun k => k = bt)) := by rw [hV]; exact (XFr.refl w _).alloc _
  have HVR : Hid (V.rangeAt w.heap.size 0 cs) := by rw [hV]; exact range_new w cs 68
  have HVB : Hid (V.heap[bt]? = w.heap[bt]?) := hVb
  have d1 : V.cell? ⟨bt, 0, none⟩ = some (.slice none 0 0) := (World.cell?_of_block (w := w) hVb).trans c1
  have g1 : V.frozen? ⟨bt, 0, none⟩ = false := (World.frozen?_of_block (w := w) hVb).trans f1
  obtain ⟨bc1, hbc1⟩ : ∃ bc1, bc1 = w.heap.size := ⟨_, rfl⟩
  have HW1 : Hid (bc1 = w.heap.size) := hbc1
  have HVS : Hid (V.heap.size = w.heap.size + 1) := hVs
  rw [← hV, ← hbc1]
  have HBT : Hid (bt < C ∧ bc1 < V.heap.size) := ⟨hbt, by omega⟩
  have HC : Hid (C ≤ V.heap.size) := by have h : C ≤ V.heap.size := by omega
                                        exact h
  have HF : Hid ((∃ v, V.cell? ⟨bt, 0, none⟩ = some v) ∧ V.frozen? ⟨bt, 0, none⟩ = false) := ⟨⟨_, d1⟩, g1⟩
  clear hV hVs hVb c1 f1 hZ hbc1 hbw
  obtain ⟨i1, hi1, hz1, hz2, hz3⟩ := info_parts info95
  have HI1 : Hid (Ybad.prog.info? 95 = some i1) := hi1
  have HZ1 : Hid (i1.zero = some (.slice none 0 0)) := hz1
  have HZ2 : Hid (i1.size = 1) := hz2
  have HZ3 : Hid (i1.bytes = 24) := hz3
  clear hi1 hz1 hz2 hz3
  have HN2 : Hid (((V.drew.alloc (.cells Z 68)).alloc (.cells #[.slice (some ⟨V.heap.size, 0, none⟩) 0 8] 95)).heap[V.heap.size + 1]? = some (.cells #[.slice (some ⟨V.heap.size, 0, none⟩) 0 8] 95)) := (two_new V Z _ 68 95).1
  have HSX : Hid (((V.drew.alloc (.cells Z 68)).alloc (.cells #[.slice (some ⟨V.heap.size, 0, none⟩) 0 8] 95)).heap.size = V.heap.size + 2) := (two_new V Z _ 68 95).2.2
  have HCX : Hid (C ≤ ((V.drew.alloc (.cells Z 68)).alloc (.cells #[.slice (some ⟨V.heap.size, 0, none⟩) 0 8] 95)).heap.size) := by
    have h := (two_new V Z #[.slice (some ⟨V.heap.size, 0, none⟩) 0 8] 68 95).2.2
    have h2 : C ≤ ((V.drew.alloc (.cells Z 68)).alloc (.cells #[.slice (some ⟨V.heap.size, 0, none⟩) 0 8] 95)).heap.size := by rw [h]; have := HC.out; omega
    exact h2
  have HKB : ∀ W1 : World, ((V.drew.alloc (.cells Z 68)).alloc (.cells #[.slice (some ⟨V.heap.size, 0, none⟩) 0 8] 95)).grownBy W1 (Value.ownBlock (.slice none 0 0)) → W1.heap[bt]? = V.heap[bt]? := fun W1 hg => by
    have h2 := two_old V (.cells Z 68) (.cells #[.slice (some ⟨V.heap.size, 0, none⟩) 0 8] 95) (k := bt) (Nat.lt_of_lt_of_le hbt HC.out)
    exact (hg.block bt (by rw [HSX.out]; have h3 := HC.out; omega) (fun e => by cases e)).trans h2
  have HFW : Hid (∀ W1 : World, ((V.drew.alloc (.cells Z 68)).alloc (.cells #[.slice (some ⟨V.heap.size, 0, none⟩) 0 8] 95)).grownBy W1 (Value.ownBlock (.slice none 0 0)) → W1.frozen? ⟨bt, 0, none⟩ = false) := fun W1 hg => (World.frozen?_of_block (w := V) (HKB W1 hg)).trans g1
  have HCW : Hid (∀ W1 : World, ((V.drew.alloc (.cells Z 68)).alloc (.cells #[.slice (some ⟨V.heap.size, 0, none⟩) 0 8] 95)).grownBy W1 (Value.ownBlock (.slice none 0 0)) → W1.cell? ⟨bt, 0, none⟩ = some (.slice none 0 0)) := fun W1 hg => (World.cell?_of_block (w := V) (HKB W1 hg)).trans d1
  clear HKB
  go_cut [27] from 27 to 37 (fun _ wd => Mid1 V C bt bc1 wd)
  case first =>
    rename_i Jx Kx hJx hKx
    refine wp_region_noPanic ?_
    refine wp_region_held (S := fun _ => True) (by kernel_rfl) ?_
    refine wpAnyH_take (i := 0) (v := .pointer (some ⟨bt, 0, none⟩)) rfl (by kernel_rfl) (by kernel_rfl) (by kernel_rfl) (fun _ _ _ h => h) (Or.inl ⟨by rfl, fun W hS => by go_simp⟩) trivial ?_
    refine wpAnyH_take (i := 1) (v := .pointer (some ⟨bt, 0, none⟩)) rfl (by kernel_rfl) (by kernel_rfl) (by kernel_rfl) (fun _ _ _ h => h) (Or.inl ⟨by rfl, fun W hS => by go_simp⟩) trivial ?_
    refine wpAnyH_take (i := 2) (v := .pointer (some ⟨bt, 0, none⟩)) rfl (by kernel_rfl) (by kernel_rfl) (by kernel_rfl) (fun _ _ _ h => h) (Or.inl ⟨by rfl, fun W hS => by go_simp⟩) trivial ?_
    refine wpAnyH_take (i := 3) (v := .pointer (some ⟨bt, 0, none⟩)) rfl (by kernel_rfl) (by kernel_rfl) (by kernel_rfl) (fun _ _ _ h => h) (Or.inl ⟨by rfl, fun W hS => by go_simp⟩) trivial ?_
    refine wpAnyH_take (i := 5) (v := .int .i64 8) rfl (by kernel_rfl) (by kernel_rfl) (by kernel_rfl) (fun _ _ _ h => h) (Or.inl ⟨by rfl, fun W hS => by go_simp⟩) trivial ?_
    have d2 : (V.alloc (.cells Z 68)).cell? ⟨bt, 0, none⟩ = some (.slice none 0 0) := (World.cell?_of_block (w := V) (Below.heap_alloc V _ _ (Nat.lt_of_lt_of_le hbt HC.out))).trans d1
    have d3 : ((V.alloc (.cells Z 68)).alloc (.cells #[.slice (some ⟨V.heap.size, 0, none⟩) 0 8] 95)).cell? ⟨bt, 0, none⟩ = some (.slice none 0 0) := (World.cell?_of_block (w := V.alloc (.cells Z 68)) (Below.heap_alloc _ _ bt (by rw [World.size_alloc]; have h3 := HC.out; omega))).trans d2
    refine wpAnyH_all (rs := [4, 6]) (by kernel_rfl) (by simp) ?_
    intro i hmem
    rcases List.mem_cons.1 hmem with rfl | hmem
    · refine wpOp_step rfl (fun K9 hK9 => ?_)
      go_simp
      refine hK9 _ _ ⟨trivial, ?_⟩
      clear hK9
      refine wpAnyH_all (rs := [6]) (by kernel_rfl) (by simp) ?_
      intro i hmem
      obtain rfl := List.mem_singleton.1 hmem
      refine wpOp_step rfl (fun K9 hK9 => ?_)
      go_simp
      refine hK9 _ _ ⟨trivial, ?_⟩
      clear hK9
      refine wpAnyH_all (rs := [7]) (by kernel_rfl) (by simp) ?_
      intro i hmem
      obtain rfl := List.mem_singleton.1 hmem
      refine wpOp_step rfl (fun K9 hK9 => ?_)
      go_simp
      refine hK9 _ _ ⟨trivial, ?_⟩
      clear hK9
      refine wpAnyH_all (rs := [8]) (by kernel_rfl) (by simp) ?_
      intro i hmem
      obtain rfl := List.mem_singleton.1 hmem
      refine wpOp_step rfl (fun K9 hK9 => ?_)
      refine step_append_lies _ (by rfl) (.tmp 31) (.tmp 34) 31 (by rfl) C 95 i1 (.slice none 0 0) 1 24 Ybad.underlying31 HI1.out HZ1.out HZ2.out HZ3.out (by rfl) (by decide) (.slice none 0 0) 0 [] (by rfl) (World.ownsRow_nil _ C 95 1) ⟨V.heap.size + 1, 0, none⟩ 1 1 [.slice (some ⟨V.heap.size, 0, none⟩) 0 8] (by rfl) (by rfl) (by exact World.news_of_block (cs := #[.slice (some ⟨V.heap.size, 0, none⟩) 0 8]) (HN2.out)) (by intro v hv; obtain rfl := List.mem_singleton.1 hv; rfl) (by decide) (by unfold maxLen; omega) (by omega) (by exact HCX.out) (V.heap.size + 2) (by exact HSX.out) ?_
      intro bc c0 W1 hown hgrow hat hlt1
      have hbc : bc = V.heap.size + 2 := by rcases hat with e | e; cases e; exact e
      subst hbc
      have HM : Hid (Mid1 V C bt bc1 (W1.setCell ⟨bt, 0, none⟩ (.slice (some ⟨V.heap.size + 2, 0, none⟩) 1 c0))) := mid1_done Z HBT.out.1 HBT.out.2 hown ⟨hgrow.os, hgrow.tape, hgrow.output, hgrow.size, hgrow.block⟩ hlt1 HC.out HF.out HOZ.out
      have f2 : W1.frozen? ⟨bt, 0, none⟩ = false := HFW.out W1 hgrow
      have c2 : W1.cell? ⟨bt, 0, none⟩ = some (.slice none 0 0) := HCW.out W1 hgrow
      refine hK9 _ _ ⟨trivial, ?_⟩
      clear hK9 hown hgrow hat hlt1
      refine wpAnyH_take (i := 9) (v := .pointer (some ⟨bt, 0, none⟩)) rfl (by kernel_rfl) (by kernel_rfl) (by kernel_rfl) (fun _ _ _ h => h) (Or.inl ⟨by rfl, fun W hS => by go_simp⟩) trivial ?_
      refine wpAnyH_take (i := 10) (v := .pointer (some ⟨bt, 0, none⟩)) rfl (by kernel_rfl) (by kernel_rfl) (by kernel_rfl) (fun _ _ _ h => h) (Or.inl ⟨by rfl, fun W hS => by go_simp⟩) trivial ?_
      refine wpAnyH_all (rs := [11]) (by kernel_rfl) (by simp) ?_
      intro i hmem
      obtain rfl := List.mem_singleton.1 hmem
      refine wpOp_step rfl (fun K9 hK9 => ?_)
      go_simp
      refine hK9 _ _ ⟨trivial, wpAnyH_done (by kernel_rfl) ?_ _⟩
      clear hK9
      refine NoPanic.normal ?_
      exact hKx _ _ (hJx _ _ ⟨_, _, _, _, _, _, _, _, _, _, _, HM.out, rfl⟩)
    · obtain rfl := List.mem_singleton.1 hmem
      refine wpOp_step rfl (fun K9 hK9 => ?_)
      go_simp
      refine hK9 _ _ ⟨trivial, ?_⟩
      clear hK9
      refine wpAnyH_all (rs := [4, 7]) (by kernel_rfl) (by simp) ?_
      intro i hmem
      rcases List.mem_cons.1 hmem with rfl | hmem
      · refine wpOp_step rfl (fun K9 hK9 => ?_)
        go_simp
        refine hK9 _ _ ⟨trivial, ?_⟩
        clear hK9
        refine wpAnyH_all (rs := [7]) (by kernel_rfl) (by simp) ?_
        intro i hmem
        obtain rfl := List.mem_singleton.1 hmem
        refine wpOp_step rfl (fun K9 hK9 => ?_)
        go_simp
        refine hK9 _ _ ⟨trivial, ?_⟩
        clear hK9
        refine wpAnyH_all (rs := [8]) (by kernel_rfl) (by simp) ?_
        intro i hmem
        obtain rfl := List.mem_singleton.1 hmem
        refine wpOp_step rfl (fun K9 hK9 => ?_)
        refine step_append_lies _ (by rfl) (.tmp 31) (.tmp 34) 31 (by rfl) C 95 i1 (.slice none 0 0) 1 24 Ybad.underlying31 HI1.out HZ1.out HZ2.out HZ3.out (by rfl) (by decide) (.slice none 0 0) 0 [] (by rfl) (World.ownsRow_nil _ C 95 1) ⟨V.heap.size + 1, 0, none⟩ 1 1 [.slice (some ⟨V.heap.size, 0, none⟩) 0 8] (by rfl) (by rfl) (by exact World.news_of_block (cs := #[.slice (some ⟨V.heap.size, 0, none⟩) 0 8]) (HN2.out)) (by intro v hv; obtain rfl := List.mem_singleton.1 hv; rfl) (by decide) (by unfold maxLen; omega) (by omega) (by exact HCX.out) (V.heap.size + 2) (by exact HSX.out) ?_
        intro bc c0 W1 hown hgrow hat hlt1
        have hbc : bc = V.heap.size + 2 := by rcases hat with e | e; cases e; exact e
        subst hbc
        have HM : Hid (Mid1 V C bt bc1 (W1.setCell ⟨bt, 0, none⟩ (.slice (some ⟨V.heap.size + 2, 0, none⟩) 1 c0))) := mid1_done Z HBT.out.1 HBT.out.2 hown ⟨hgrow.os, hgrow.tape, hgrow.output, hgrow.size, hgrow.block⟩ hlt1 HC.out HF.out HOZ.out
        have f2 : W1.frozen? ⟨bt, 0, none⟩ = false := HFW.out W1 hgrow
        have c2 : W1.cell? ⟨bt, 0, none⟩ = some (.slice none 0 0) := HCW.out W1 hgrow
        refine hK9 _ _ ⟨trivial, ?_⟩
        clear hK9 hown hgrow hat hlt1
        refine wpAnyH_take (i := 9) (v := .pointer (some ⟨bt, 0, none⟩)) rfl (by kernel_rfl) (by kernel_rfl) (by kernel_rfl) (fun _ _ _ h => h) (Or.inl ⟨by rfl, fun W hS => by go_simp⟩) trivial ?_
        refine wpAnyH_take (i := 10) (v := .pointer (some ⟨bt, 0, none⟩)) rfl (by kernel_rfl) (by kernel_rfl) (by kernel_rfl) (fun _ _ _ h => h) (Or.inl ⟨by rfl, fun W hS => by go_simp⟩) trivial ?_
        refine wpAnyH_all (rs := [11]) (by kernel_rfl) (by simp) ?_
        intro i hmem
        obtain rfl := List.mem_singleton.1 hmem
        refine wpOp_step rfl (fun K9 hK9 => ?_)
        go_simp
        refine hK9 _ _ ⟨trivial, wpAnyH_done (by kernel_rfl) ?_ _⟩
        clear hK9
        refine NoPanic.normal ?_
        exact hKx _ _ (hJx _ _ ⟨_, _, _, _, _, _, _, _, _, _, _, HM.out, rfl⟩)
      · obtain rfl := List.mem_singleton.1 hmem
        refine wpOp_step rfl (fun K9 hK9 => ?_)
        go_simp
        refine hK9 _ _ ⟨trivial, ?_⟩
        clear hK9
        refine wpAnyH_all (rs := [4]) (by kernel_rfl) (by simp) ?_
        intro i hmem
        obtain rfl := List.mem_singleton.1 hmem
        refine wpOp_step rfl (fun K9 hK9 => ?_)
        go_simp
        refine hK9 _ _ ⟨trivial, ?_⟩
        clear hK9
        refine wpAnyH_all (rs := [8]) (by kernel_rfl) (by simp) ?_
        intro i hmem
        obtain rfl := List.mem_singleton.1 hmem
        refine wpOp_step rfl (fun K9 hK9 => ?_)
        refine step_append_lies _ (by rfl) (.tmp 31) (.tmp 34) 31 (by rfl) C 95 i1 (.slice none 0 0) 1 24 Ybad.underlying31 HI1.out HZ1.out HZ2.out HZ3.out (by rfl) (by decide) (.slice none 0 0) 0 [] (by rfl) (World.ownsRow_nil _ C 95 1) ⟨V.heap.size + 1, 0, none⟩ 1 1 [.slice (some ⟨V.heap.size, 0, none⟩) 0 8] (by rfl) (by rfl) (by exact World.news_of_block (cs := #[.slice (some ⟨V.heap.size, 0, none⟩) 0 8]) (HN2.out)) (by intro v hv; obtain rfl := List.mem_singleton.1 hv; rfl) (by decide) (by unfold maxLen; omega) (by omega) (by exact HCX.out) (V.heap.size + 2) (by exact HSX.out) ?_
        intro bc c0 W1 hown hgrow hat hlt1
        have hbc : bc = V.heap.size + 2 := by rcases hat with e | e; cases e; exact e
        subst hbc
        have HM : Hid (Mid1 V C bt bc1 (W1.setCell ⟨bt, 0, none⟩ (.slice (some ⟨V.heap.size + 2, 0, none⟩) 1 c0))) := mid1_done Z HBT.out.1 HBT.out.2 hown ⟨hgrow.os, hgrow.tape, hgrow.output, hgrow.size, hgrow.block⟩ hlt1 HC.out HF.out HOZ.out
        have f2 : W1.frozen? ⟨bt, 0, none⟩ = false := HFW.out W1 hgrow
        have c2 : W1.cell? ⟨bt, 0, none⟩ = some (.slice none 0 0) := HCW.out W1 hgrow
        refine hK9 _ _ ⟨trivial, ?_⟩
        clear hK9 hown hgrow hat hlt1
        refine wpAnyH_take (i := 9) (v := .pointer (some ⟨bt, 0, none⟩)) rfl (by kernel_rfl) (by kernel_rfl) (by kernel_rfl) (fun _ _ _ h => h) (Or.inl ⟨by rfl, fun W hS => by go_simp⟩) trivial ?_
        refine wpAnyH_take (i := 10) (v := .pointer (some ⟨bt, 0, none⟩)) rfl (by kernel_rfl) (by kernel_rfl) (by kernel_rfl) (fun _ _ _ h => h) (Or.inl ⟨by rfl, fun W hS => by go_simp⟩) trivial ?_
        refine wpAnyH_all (rs := [11]) (by kernel_rfl) (by simp) ?_
        intro i hmem
        obtain rfl := List.mem_singleton.1 hmem
        refine wpOp_step rfl (fun K9 hK9 => ?_)
        go_simp
        refine hK9 _ _ ⟨trivial, wpAnyH_done (by kernel_rfl) ?_ _⟩
        clear hK9
        refine NoPanic.normal ?_
        exact hKx _ _ (hJx _ _ ⟨_, _, _, _, _, _, _, _, _, _, _, HM.out, rfl⟩)
  case rest =>
    obtain ⟨wd, rfl⟩ : ∃ wx, wx = wc := ⟨_, rfl⟩
    obtain ⟨⟨c0, hr⟩, hx, hcel, hfrz, hbx⟩ := hcut
    have HR : Hid (RunsAt wd C bt (V.heap.size + 2) c0 V.heap.size 8 0 []) := hr
    have HX : Hid (XFr V wd (fun k => k = bt)) := hx
    have HCE : Hid (∀ j, j ≠ 0 → wd.cell? ⟨bt, j, none⟩ = V.cell? ⟨bt, j, none⟩) := hcel
    have HFZ : Hid (∀ j, wd.frozen? ⟨bt, j, none⟩ = V.frozen? ⟨bt, j, none⟩) := hfrz
    clear hr hx hcel hfrz
    go_wp2_with fail
    refine push8 wd C bt (V.heap.size + 2) c0 V.heap.size 8 0 bc1 [] cs hcs h1c HR.out (by omega) (fun j v hv => (HX.out.cell _ hbx (by have h3 := HW1.out; omega)).trans ((congrArg (fun q => V.cell? ⟨q, 0 + j, none⟩) HW1.out).trans (HVR.out j v hv))) (by omega) (by omega) (by have := HX.out.size; omega) (fun e w' => (∃ v, e = .returned v) ∧ Push1Post w C bt cs w') (fun e w' he hp => ⟨he, ?_⟩) _ _ _ _ _ _ _ _ _ _ _ _ _ _ _ _ _ _ _ _ _ _ _ _ _ _ _ _ _ _ _ _ _ _ _ _ _ _ _ _ _ _ _ _ _ _ _ _ _ _ _ _ _ _ _
    obtain ⟨g, cap, hp1, hp2⟩ := hp
    refine ⟨_, _, g, cap, hp1, (HVX.out.trans HX.out (fun k h => Or.inl h)).trans hp2 (fun k h => Or.inr (by have := HVS.out; rcases h with h | h <;> omega)), fun j hj => ?_, fun j => ?_⟩
    · exact ((hp2.cell j (by have h3 := HX.out.size; have h4 := HC.out; omega) (by have h4 := HC.out; omega)).trans (HCE.out j hj)).trans (World.cell?_of_block (w := w) HVB.out)
    · exact ((hp2.frozen j (by have h3 := HX.out.size; have h4 := HC.out; omega) (by have h4 := HC.out; omega)).trans (HFZ.out j)).trans (World.frozen?_of_block (w := w) HVB.out)
end Go.Proofs.YbulkdhcgDoor
