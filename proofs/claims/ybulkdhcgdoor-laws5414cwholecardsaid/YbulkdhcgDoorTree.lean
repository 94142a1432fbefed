/-
  The tree in memory; textAt: what it holds.
-/
import Derived.Test.YbulkdhcgDoorRuns
import Derived.Test.YbulkdhcgDoorWriteW
import Derived.Test.YbulkdhcgDoorHeldIn
namespace Go.Proofs.YbulkdhcgDoor
open Go.RowKit

/-- the tree, as plain data. -/
structure TreeD where
  (bt bA nA capA bc c0 b0 nR capR bL nl capL bi ci bd cd : Nat)
  (bp bb bcap bm mcap : Nat → Nat)
  (tx : Nat → Mk)
  (S : Nat → Nat → Bool)
  (v : Lv)
  (ra rn rl ins : Nat → Nat)
def TreeD.xs (d : TreeD) : List Nat := d.v.all d.v.nL 1
/-- the last count that run x shows. -/
def TreeD.q (d : TreeD) (x : Nat) : Nat := min (d.rn x + d.rl x) (d.ins (d.ra x))
/-- what the runs in xs write. -/
def TreeD.out (d : TreeD) (xs : List Nat) : List UInt8 := xs.flatMap fun x => outOf (d.tx (d.ra x)) (d.S (d.ra x)) (List.range' (d.rn x) (d.q x - d.rn x))
theorem TreeD.out_snoc (d : TreeD) (xs : List Nat) (x : Nat) : d.out (xs ++ [x]) = d.out xs ++ outOf (d.tx (d.ra x)) (d.S (d.ra x)) (List.range' (d.rn x) (d.q x - d.rn x)) := by
  unfold TreeD.out; rw [List.flatMap_append]; simp

structure TreeD.At (d : TreeD) (B : Nat) (w : World) : Prop where
  l0 : 0 < B
  l1 : d.bt < B
  l2 : d.bA < B
  l3 : d.bc < B
  l4 : d.b0 < B
  l5 : d.bL < B
  l6 : d.bi < B
  l7 : ∀ a, a < d.nA → d.bp a < B ∧ d.bb a < B ∧ d.bm a < B
  actors : w.cell? ⟨d.bt, 12, none⟩ = some (.slice (some ⟨d.bA, 0, none⟩) d.nA d.capA)
  runs : w.cell? ⟨d.bt, 0, none⟩ = some (.slice (some ⟨d.bc, 0, none⟩) 1 d.c0)
  chunk : w.cell? ⟨d.bc, 0, none⟩ = some (.slice (some ⟨d.b0, 0, none⟩) d.nR d.capR)
  nR : d.nR ≤ 4096
  leaves : w.cell? ⟨d.bt, 3, none⟩ = some (.slice (some ⟨d.bL, 0, none⟩) d.nl d.capL)
  lv : LvAt w d.bL d.nl d.v
  nL : 1 ≤ d.v.nL
  tab : Tab w
  txt : ∀ a, a < d.nA → TextAt w d.bA (a * 9 + 2) (d.bp a) (d.bb a) (d.bcap a) (d.bm a) (d.mcap a) (d.tx a)
  ok : ∀ a, a < d.nA → (d.tx a).Ok
  y : ∀ a, a < d.nA → ∀ j, 0 ≤ (d.tx a).y j ∧ (d.tx a).y j ≤ 255
  set : ∀ a, a < d.nA → SetAt w B d.bd a (d.S a)
  ins : ∀ a, a < d.nA → w.cell? ⟨d.bi, a, none⟩ = some (.int .u32 (d.ins a : Nat))
  xlt : ∀ x, x ∈ d.xs → x < d.nR ∧ d.ra x < d.nA ∧ d.rn x + d.rl x ≤ (d.tx (d.ra x)).n ∧ w.cell? ⟨d.b0, x * 18, none⟩ = some (.int .u32 (d.ra x : Nat)) ∧ w.cell? ⟨d.b0, x * 18 + 1, none⟩ = some (.int .u32 (d.rn x : Nat)) ∧ w.cell? ⟨d.b0, x * 18 + 2, none⟩ = some (.int .u32 (d.rl x : Nat))
  len : d.xs.length ≤ 4096
  nA : d.nA ≤ 4096

theorem TreeD.At.kept {d : TreeD} {B : Nat} {w W : World} (h : d.At B w) (hk : Kept (fun k _ => k < B) w W) : d.At B W := by
  have c : ∀ {p : Addr} {v : Value}, p.block < B → w.cell? p = some v → W.cell? p = some v := fun hp hc => hk.cell (fun _ _ => hp) hc
  exact ⟨h.l0, h.l1, h.l2, h.l3, h.l4, h.l5, h.l6, h.l7, c h.l1 h.actors, c h.l1 h.runs, c h.l3 h.chunk, h.nR, c h.l1 h.leaves, h.lv.kept hk (fun _ _ => h.l5), h.nL, fun j hj => c h.l0 (h.tab j hj),
    fun a ha => (h.txt a ha).kept hk (fun _ _ => h.l2) (fun _ _ => (h.l7 a ha).1) (fun _ _ => (h.l7 a ha).2.1) (fun _ _ => (h.l7 a ha).2.2), h.ok, h.y, fun a ha => (h.set a ha).kept hk (fun _ _ h => h), fun a ha => c h.l6 (h.ins a ha),
    fun x hx => by obtain ⟨a1, a2, a3, a4, a5, a6⟩ := h.xlt x hx; exact ⟨a1, a2, a3, c h.l4 a4, c h.l4 a5, c h.l4 a6⟩, h.len, h.nA⟩

theorem runs_call (p : Option Addr) (w : World) :
    Calls Ybad.prog 14 #[.pointer p, .bool true] w fun e w' => e = .returned (.func (.func 19) #[] #[.pointer (some ⟨w.heap.size, 0, none⟩), .pointer (some ⟨w.heap.size + 1, 0, none⟩)]) ∧
      w' = (w.alloc (.cells #[.pointer p] 111)).alloc (.cells #[.bool true] 4) := by
  go_enter Ybad.func14, Ybad.ntmps14
  go_wp2
  go_ret
  exact ⟨rfl, rfl⟩

theorem out_len {d : TreeD} {B : Nat} {w : World} (h : d.At B w) : ∀ ys : List Nat, (∀ y ∈ ys, y ∈ d.xs) → (d.out ys).length ≤ ys.length * 65536
  | [], _ => by simp [TreeD.out]
  | y :: ys, hy => by
    have h1 := out_len h ys (fun z hz => hy z (List.mem_cons_of_mem _ hz))
    obtain ⟨_, a2, a3, _⟩ := h.xlt y (hy y (List.mem_cons_self ..))
    have hq : d.q y ≤ (d.tx (d.ra y)).n := by unfold TreeD.q; omega
    have h2 := outOf_len (h.ok _ a2) (d.S (d.ra y)) (List.range' (d.rn y) (d.q y - d.rn y)) (fun k hk => by have := List.mem_range'_1.1 hk; omega)
    rw [List.length_range'] at h2
    have h3 := (h.ok _ a2).small
    have e : d.out (y :: ys) = outOf (d.tx (d.ra y)) (d.S (d.ra y)) (List.range' (d.rn y) (d.q y - d.rn y)) ++ d.out ys := by unfold TreeD.out; rw [List.flatMap_cons]
    rw [e, List.length_append, List.length_cons]
    omega

/-- what is held between two rounds of textAt. -/
structure TI (K : Nat → Obj → Prop) (d : TreeD) (B s : Nat) (w w6 : World) (l : List UInt8) (V : World) : Prop where
  bld : Bld B (s + 1 + 1 + 1) l V
  b1 : V.heap[s]? = some (.cells #[.pointer (some ⟨d.bt, 0, none⟩)] 29 (0, 0))
  b2 : V.heap[s + 1]? = some (.cells #[.slice (some ⟨d.bi, 0, none⟩) d.nA d.ci] 25 (0, 0))
  b3 : V.heap[s + 1 + 1]? = some (.cells #[.slice (some ⟨d.bd, 0, none⟩) d.nA d.cd] 79 (0, 0))
  kp : Kept K w6 V
  bk : BKeep B (s + 1 + 1 + 1) w V
theorem TI.own {K : Nat → Obj → Prop} {d : TreeD} {B s : Nat} {w w6 : World} (hw : w.heap.size ≤ w6.heap.size) (l : List Nat → List UInt8) : OwnFrom w6.heap.size (fun pre V => TI K d B s w w6 (l pre) V) := fun _ X Y row hs hg hr =>
  ⟨hs.bld.grown hg hr, heap_grown hs.b1 rfl hg hr, heap_grown hs.b2 rfl hg hr, heap_grown hs.b3 rfl hg hr, own_kept (β := Unit) (Nat.le_refl _) () X Y row hs.kp hg hr, bkeep_grown hs.bk hw hg hr⟩
theorem TI.step {K : Nat → Obj → Prop} {d : TreeD} {B s : Nat} {w w6 : World} {l0 l1 : List UInt8} {V V2 : World} (h : TI K d B s w w6 l0 V) (hk2 : BKeep B (s + 1 + 1 + 1) V V2) (hb2 : Bld B (s + 1 + 1 + 1) l1 V2)
    (hKb : ∀ o, ¬ K (s + 1 + 1 + 1) o) (hK5 : ∀ g cur, B ≤ g → ¬ K g (.cells cur 5 (0, 0))) : KeepsFrom w6.heap.size V V2 ∧ Kept K V V2 ∧ TI K d B s w w6 l1 V2 := by
  have kx := hk2 (fun k o => k ≠ s + 1 + 1 + 1 ∧ ∃ cs T fr, o = .cells cs T fr ∧ T ≠ 5) (fun o ho => ho.1 rfl) (fun g cur _ ho => by obtain ⟨_, cs, T, fr, e, hT⟩ := ho; cases e; exact hT rfl)
  exact ⟨hk2.others h.bld.cells _, hk2 K hKb hK5, hb2, kx.block _ _ h.b1 ⟨by omega, _, _, _, rfl, by decide⟩, kx.block _ _ h.b2 ⟨by omega, _, _, _, rfl, by decide⟩, kx.block _ _ h.b3 ⟨by omega, _, _, _, rfl, by decide⟩, h.kp.trans (hk2 K hKb hK5), h.bk.trans hk2⟩
end Go.Proofs.YbulkdhcgDoor
