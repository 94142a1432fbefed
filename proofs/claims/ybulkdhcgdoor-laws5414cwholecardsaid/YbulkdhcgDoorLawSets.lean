/-
  deleted and gone: what is held while the deletes are taken.
-/
import Derived.Test.YbulkdhcgDoorLawS92
namespace Go.Proofs.YbulkdhcgDoor
open Go.RowKit

/-- all of TreeD.At but the sets. -/
structure TP (d : TreeD) (B : Nat) (w : World) : Prop where
  l0 : 0 < B
  l1 : d.bt < B
  l2 : d.bA < B
  l3 : d.bc < B
  l4 : d.b0 < B
  l5 : d.bL < B
  l6 : d.bi < B
  l7 : ∀ a, a < d.nA → d.bp a < B ∧ d.bb a < B ∧ d.bm a < B
  actors : w.cell? ⟨d.bt, 12, none⟩ = some (.slice (some ⟨d.bA, 0, none⟩) d.nA d.capA)
  runs : w.cell? ⟨d.bt, 0, none⟩ = some (.slice (some ⟨d.bc, 0, none⟩) 1 d.c0)
  chunk : w.cell? ⟨d.bc, 0, none⟩ = some (.slice (some ⟨d.b0, 0, none⟩) d.nR d.capR)
  nR : d.nR ≤ 4096
  leaves : w.cell? ⟨d.bt, 3, none⟩ = some (.slice (some ⟨d.bL, 0, none⟩) d.nl d.capL)
  lv : LvAt w d.bL d.nl d.v
  nL : 1 ≤ d.v.nL
  tab : Tab w
  txt : ∀ a, a < d.nA → TextAt w d.bA (a * 9 + 2) (d.bp a) (d.bb a) (d.bcap a) (d.bm a) (d.mcap a) (d.tx a)
  ok : ∀ a, a < d.nA → (d.tx a).Ok
  y : ∀ a, a < d.nA → ∀ j, 0 ≤ (d.tx a).y j ∧ (d.tx a).y j ≤ 255
  ins : ∀ a, a < d.nA → w.cell? ⟨d.bi, a, none⟩ = some (.int .u32 (d.ins a : Nat))
  xlt : ∀ x, x ∈ d.xs → x < d.nR ∧ d.ra x < d.nA ∧ d.rn x + d.rl x ≤ (d.tx (d.ra x)).n ∧ w.cell? ⟨d.b0, x * 18, none⟩ = some (.int .u32 (d.ra x : Nat)) ∧ w.cell? ⟨d.b0, x * 18 + 1, none⟩ = some (.int .u32 (d.rn x : Nat)) ∧ w.cell? ⟨d.b0, x * 18 + 2, none⟩ = some (.int .u32 (d.rl x : Nat))
  len : d.xs.length ≤ 4096
  nA : d.nA ≤ 4096
theorem TP.at' {d : TreeD} {B B' : Nat} {w W : World} (h : TP d B w) (hk : Kept (fun k _ => k < B) w W) (hB : B ≤ B') (hset : ∀ a, a < d.nA → SetAt W B' d.bd a (d.S a)) : d.At B' W := by
  have l : ∀ {k : Nat}, k < B → k < B' := fun hk => Nat.lt_of_lt_of_le hk hB
  have c : ∀ {p : Addr} {v : Value}, p.block < B → w.cell? p = some v → W.cell? p = some v := fun hp hc => hk.cell (fun _ _ => hp) hc
  exact ⟨l h.l0, l h.l1, l h.l2, l h.l3, l h.l4, l h.l5, l h.l6, fun a ha => ⟨l (h.l7 a ha).1, l (h.l7 a ha).2.1, l (h.l7 a ha).2.2⟩, c h.l1 h.actors, c h.l1 h.runs, c h.l3 h.chunk, h.nR, c h.l1 h.leaves, h.lv.kept hk (fun _ _ => h.l5), h.nL, fun j hj => c h.l0 (h.tab j hj),
    fun a ha => (h.txt a ha).kept hk (fun _ _ => h.l2) (fun _ _ => (h.l7 a ha).1) (fun _ _ => (h.l7 a ha).2.1) (fun _ _ => (h.l7 a ha).2.2), h.ok, h.y, hset, fun a ha => c h.l6 (h.ins a ha),
    fun x hx => by obtain ⟨a1, a2, a3, a4, a5, a6⟩ := h.xlt x hx; exact ⟨a1, a2, a3, c h.l4 a4, c h.l4 a5, c h.l4 a6⟩, h.len, h.nA⟩

/-- the set, as textAt reads it. -/
theorem CSAt.setAt {s : Lvs} {w : World} {C bd od : Nat} {v : Value} {lv : Nat → Value} {S : Nat → Bool} (h : CSAt s (fun _ => False) w C bd od v lv) (hs : s.Ok) (hS : ∀ y, s.bit 0 y = S y) : SetAt w w.heap.size bd od S := by
  have hr := h.read hs
  refine ⟨Nat.lt_of_lt_of_le h.bdC h.size, ?_⟩
  by_cases hL : 0 < s.L
  · obtain ⟨bl, hbl⟩ := hr.at0 hL
    have h1 := hr.row bl hbl 0 hL
    refine Or.inr ⟨bl, s.L, capOf v, _, s.nw 0, _, s.wd 0, by rw [← hbl]; exact hr.top, hL, by have := hs.L; omega, h1, by have := hs.nw 0; omega, hr.words 0 hL, fun x => ?_, World.block_lt_of_cell? w _ h1, fun b hb => ?_⟩
    · rw [← hS x]; unfold Lvs.bit; rw [decide_eq_true hL, Bool.true_and]
    · have h2 := h.lev 0 hL (fun e => e)
      have e : (lv 0).ownBlock = some b := by rw [own_slice h2, hb]; rfl
      exact (h2.lt b e).2
  · refine Or.inl ⟨addrOf v, capOf v, ?_, fun x => ?_⟩
    · have h2 := hr.top
      rw [show s.L = 0 by omega] at h2; exact h2
    · rw [← hS x]; unfold Lvs.bit; rw [decide_eq_false hL, Bool.false_and]
/-- the set stays. -/
theorem CSAt.moved {s : Lvs} {w W : World} {C bd od : Nat} {v : Value} {lv : Nat → Value} (h : CSAt s (fun _ => False) w C bd od v lv) (hs : w.heap.size ≤ W.heap.size) (hc : W.cell? ⟨bd, od, none⟩ = w.cell? ⟨bd, od, none⟩) (hf : W.frozen? ⟨bd, od, none⟩ = w.frozen? ⟨bd, od, none⟩) (hb : ∀ g, C ≤ g → g < w.heap.size → Ub s.L v lv g → W.heap[g]? = w.heap[g]?) : CSAt s (fun _ => False) W C bd od v lv :=
  ⟨hc.trans h.top, hf.trans h.fz, h.bdC, Nat.le_trans h.size hs, own_xfr h.row (fun g hg => hb g (h.row.lt g hg).1 (h.row.lt g hg).2 (Or.inl hg)), fun i hi hx => own_xfr (h.lev i hi hx) (fun g hg => hb g ((h.lev i hi hx).lt g hg).1 ((h.lev i hi hx).lt g hg).2 (Or.inr ⟨i, hi, hg⟩)), h.dis⟩
theorem CSAt.ublt {s : Lvs} {w : World} {C bd od : Nat} {v : Value} {lv : Nat → Value} (h : CSAt s (fun _ => False) w C bd od v lv) {g : Nat} (hg : Ub s.L v lv g) : C ≤ g ∧ g < w.heap.size := by
  rcases hg with hg | ⟨i, hi, hg⟩
  · exact h.row.lt g hg
  · exact (h.lev i hi (fun e => e)).lt g hg
/-- the empty set. -/
def noL : Lvs := ⟨0, fun _ => 0, fun _ _ => 0⟩
theorem noL_bit (i x : Nat) : noL.bit i x = false := by unfold Lvs.bit; rw [decide_eq_false (by show ¬ i < 0; omega), Bool.false_and]
theorem noL_ok : noL.Ok := ⟨fun _ _ => (by show 0 < 18446744073709551616; omega), fun i x hx => (by rw [noL_bit] at hx; exact absurd hx (by decide)), fun x hx => (by rw [noL_bit] at hx; exact absurd hx (by decide)), fun _ => Nat.zero_le _, Nat.zero_le _⟩
theorem noL_at {w : World} {C bd od : Nat} (h : w.cell? ⟨bd, od, none⟩ = some (.slice none 0 0)) (hf : w.frozen? ⟨bd, od, none⟩ = false) (hC : bd < C) (hs : C ≤ w.heap.size) : CSAt noL (fun _ => False) w C bd od (.slice none 0 0) (fun _ => .slice none 0 0) :=
  ⟨h, hf, hC, hs, World.ownsRow_nil _ _ _ _, fun i hi => absurd hi (Nat.not_lt_zero i), fun i _ hi => absurd hi (Nat.not_lt_zero i)⟩

/-- deleted and gone, as they are made. -/
structure Gn (I : Inp) (W : World) (B bd bG : Nat) (bg : Nat → Nat) : Prop where
  del : ∀ a, a < I.nA → W.cell? ⟨bd, a, none⟩ = some (.slice none 0 0) ∧ W.frozen? ⟨bd, a, none⟩ = false
  frz : ∀ a, a < I.nA → ∀ y, W.frozen? ⟨bg a, y, none⟩ = false
  inj : ∀ a b, a < I.nA → b < I.nA → a ≠ b → bg a ≠ bg b
  b1 : B ≤ bd
  b2 : B ≤ bG
  b3 : ∀ a, a < I.nA → B ≤ bg a
  n1 : bd ≠ bG
  n2 : ∀ a, a < I.nA → bg a ≠ bd ∧ bg a ≠ bG ∧ bg a < W.heap.size
  lt : bd < W.heap.size
/-- the sets and the rows of flags behind i deletes. -/
structure SV (I : Inp) (i : Nat) (W : World) (bd : Nat) (bg : Nat → Nat) (s : Nat → Lvs) (v : Nat → Value) (lv : Nat → Nat → Value) (wr : World) : Prop where
  ok : ∀ a, a < I.nA → (s a).Ok ∧ (s a).L ≤ 64 ∧ (∀ y, (s a).bit 0 y = I.D i a y) ∧ CSAt (s a) (fun _ => False) wr W.heap.size bd a (v a) (lv a)
  dis : ∀ a b, a < I.nA → b < I.nA → a ≠ b → ∀ g, Ub (s a).L (v a) (lv a) g → ¬ Ub (s b).L (v b) (lv b) g
  go : ∀ a, a < I.nA → ∀ y, y < I.tot a → wr.cell? ⟨bg a, y, none⟩ = some (.bool (I.D i a y))
  frz : ∀ a, a < I.nA → ∀ y, wr.frozen? ⟨bg a, y, none⟩ = false
  fr : XFr W wr (fun k => k = bd ∨ ∃ a, a < I.nA ∧ k = bg a)
/-- the sets alone, behind the call. -/
structure SJ (I : Inp) (i x : Nat) (W : World) (bd : Nat) (bg : Nat → Nat) (s : Nat → Lvs) (v : Nat → Value) (lv : Nat → Nat → Value) (wr : World) : Prop where
  ok : ∀ a, a < I.nA → (s a).Ok ∧ (s a).L ≤ 64 ∧ (∀ y, (s a).bit 0 y = I.D (i + 1) a y) ∧ CSAt (s a) (fun _ => False) wr W.heap.size bd a (v a) (lv a)
  dis : ∀ a b, a < I.nA → b < I.nA → a ≠ b → ∀ g, Ub (s a).L (v a) (lv a) g → ¬ Ub (s b).L (v b) (lv b) g
  go : ∀ a, a < I.nA → ∀ y, y < I.tot a → wr.cell? ⟨bg a, y, none⟩ = some (.bool (if a = I.dA i % I.nA then I.D i a y || decide (I.dL i ≤ y ∧ y < x) else I.D i a y))
  frz : ∀ a, a < I.nA → ∀ y, wr.frozen? ⟨bg a, y, none⟩ = false
  fr : XFr W wr (fun k => k = bd ∨ ∃ a, a < I.nA ∧ k = bg a)

theorem XFr.ofC {w W : World} {bd od : Nat} {U : Nat → Prop} {V : Nat → Prop} {w0 : World} (h : CFr w W bd od U) (h0 : XFr w0 w V) (hb : V bd) (hU : ∀ g, U g → w0.heap.size ≤ g) : XFr w0 W V :=
  h0.trans (V := fun k => k = bd ∨ U k) ⟨h.os, h.tape, h.output, h.size, fun k hk hn => h.blk k hk (fun e => hn (Or.inl e)) (fun e => hn (Or.inr e))⟩ (fun g hg => by
    rcases hg with rfl | hg
    · exact Or.inl hb
    · exact Or.inr (hU g hg))
theorem SV.start {I : Inp} {W : World} {B bd bG : Nat} {bg : Nat → Nat} (hG : Gn I W B bd bG bg) (hg : ∀ a, a < I.nA → ∀ y, y < I.tot a → W.cell? ⟨bg a, y, none⟩ = some (.bool false)) : SV I 0 W bd bg (fun _ => noL) (fun _ => .slice none 0 0) (fun _ _ => .slice none 0 0) W :=
  ⟨fun a ha => ⟨noL_ok, Nat.zero_le _, fun y => noL_bit 0 y, noL_at (hG.del a ha).1 (hG.del a ha).2 hG.lt (Nat.le_refl _)⟩, fun a b _ _ _ g h1 _ => by
    rcases h1 with h1 | ⟨i, hi, _⟩
    · cases h1
    · exact absurd hi (Nat.not_lt_zero i), hg, hG.frz, XFr.refl _ _⟩
theorem SV.add {I : Inp} {i : Nat} {W : World} {B bd bG : Nat} {bg : Nat → Nat} {s : Nat → Lvs} {v : Nat → Value} {lv : Nat → Nat → Value} {wr w' : World} (h : SV I i W bd bg s v lv wr) (hG : Gn I W B bd bG bg)
    (hp : AddPost (addT ((s (I.dA i % I.nA)).bit 0) (I.dL i) (I.dL i + I.dS i % 80)) wr W.heap.size bd (I.dA i % I.nA) (Ub (s (I.dA i % I.nA)).L (v (I.dA i % I.nA)) (lv (I.dA i % I.nA))) w') : ∃ s' v' lv', SJ I i (I.dL i) W bd bg s' v' lv' w' := by
  obtain ⟨s1, v1, lv1, q1, q2, q3, q4, q5, q6⟩ := hp
  obtain ⟨x, hx⟩ : ∃ x, x = I.dA i % I.nA := ⟨_, rfl⟩
  rw [← hx] at q3 q4 q5 q6
  have hxl : x < I.nA := by rw [hx]; exact Nat.mod_lt _ I.nA_pos
  have hU : ∀ g, Ub (s x).L (v x) (lv x) g → W.heap.size ≤ g ∧ g < wr.heap.size := fun g hg => (h.ok x hxl).2.2.2.ublt hg
  have hfr : XFr W w' (fun k => k = bd ∨ ∃ a, a < I.nA ∧ k = bg a) := XFr.ofC q5 h.fr (Or.inl rfl) (fun g hg => (hU g hg).1)
  have hblk : ∀ k, k < W.heap.size → k ≠ bd → w'.heap[k]? = wr.heap[k]? := fun k hk hn => q5.blk k (Nat.lt_of_lt_of_le hk h.fr.size) hn (fun e => by have := (hU k e).1; omega)
  refine ⟨fun a => if a = x then s1 else s a, fun a => if a = x then v1 else v a, fun a => if a = x then lv1 else lv a, fun a ha => ?_, fun a b ha hb hab g h1 h2 => ?_, fun a ha y hy => ?_, fun a ha y => ?_, hfr⟩
  · by_cases e : a = x
    · simp only [if_pos e]
      refine ⟨q1, q2, fun y => ?_, by rw [e]; exact q4⟩
      rw [q3 y]
      show _ = (if a = I.dA i % I.nA then addT (I.D i a) (I.dL i) (I.dL i + I.dS i % 80) y else I.D i a y)
      rw [if_pos (by rw [← hx]; exact e)]
      unfold addT
      rw [e, (h.ok x hxl).2.2.1 y]
    · simp only [if_neg e]
      obtain ⟨k1, k2, k3, k4⟩ := h.ok a ha
      refine ⟨k1, k2, fun y => ?_, k4.moved q5.size (q5.cel a e) (q5.frz a) (fun g hg hg2 hu => q5.blk g hg2 (by have := hG.lt; omega) (fun hu2 => h.dis a x ha hxl e g hu hu2))⟩
      show _ = (if a = I.dA i % I.nA then addT (I.D i a) (I.dL i) (I.dL i + I.dS i % 80) y else I.D i a y)
      rw [if_neg (by rw [← hx]; exact e)]
      exact k3 y
  · by_cases e1 : a = x
    · by_cases e2 : b = x
      · exact hab (e1.trans e2.symm)
      · simp only [if_pos e1] at h1
        simp only [if_neg e2] at h2
        rcases q6 g h1 with h3 | h3
        · exact h.dis b x hb hxl e2 g h2 h3
        · have := ((h.ok b hb).2.2.2.ublt h2).2; omega
    · by_cases e2 : b = x
      · simp only [if_neg e1] at h1
        simp only [if_pos e2] at h2
        rcases q6 g h2 with h3 | h3
        · exact h.dis a x ha hxl e1 g h1 h3
        · have := ((h.ok a ha).2.2.2.ublt h1).2; omega
      · simp only [if_neg e1] at h1
        simp only [if_neg e2] at h2
        exact h.dis a b ha hb hab g h1 h2
  · have e : w'.cell? ⟨bg a, y, none⟩ = wr.cell? ⟨bg a, y, none⟩ := World.cell?_of_block (w := wr) (hblk _ (hG.n2 a ha).2.2 (hG.n2 a ha).1)
    rw [e, h.go a ha y hy]
    have e2 : decide (I.dL i ≤ y ∧ y < I.dL i) = false := decide_eq_false (by omega)
    rw [e2, Bool.or_false]
    split <;> rfl
  · have e : w'.frozen? ⟨bg a, y, none⟩ = wr.frozen? ⟨bg a, y, none⟩ := World.frozen?_of_block (w := wr) (hblk _ (hG.n2 a ha).2.2 (hG.n2 a ha).1)
    rw [e]; exact h.frz a ha y
theorem SJ.put {I : Inp} {i x : Nat} {W : World} {B bd bG : Nat} {bg : Nat → Nat} {s : Nat → Lvs} {v : Nat → Value} {lv : Nat → Nat → Value} {wr : World} (h : SJ I i x W bd bg s v lv wr) (hG : Gn I W B bd bG bg) (h1 : I.dL i ≤ x) : SJ I i (x + 1) W bd bg s v lv (wr.setCell ⟨bg (I.dA i % I.nA), x, none⟩ (.bool true)) := by
  obtain ⟨k, hk⟩ : ∃ k, k = I.dA i % I.nA := ⟨_, rfl⟩
  have hkl : k < I.nA := by rw [hk]; exact Nat.mod_lt _ I.nA_pos
  rw [← hk]
  have hne : ∀ b j, b ≠ bg k → (wr.setCell ⟨bg k, x, none⟩ (.bool true)).cell? ⟨b, j, none⟩ = wr.cell? ⟨b, j, none⟩ := fun b j hb => World.cell?_setCell_other _ _ _ _ (fun e => hb (congrArg Addr.block e).symm)
  refine ⟨fun a ha => ?_, h.dis, fun a ha y hy => ?_, fun a ha y => by rw [World.frozen?_setCell]; exact h.frz a ha y, h.fr.set (bg k) x _ (Or.inl (Or.inr ⟨k, hkl, rfl⟩))⟩
  · obtain ⟨k1, k2, k3, k4⟩ := h.ok a ha
    refine ⟨k1, k2, k3, k4.moved (by show wr.heap.size ≤ (wr.heap.modify _ _).size; rw [Array.size_modify]; exact Nat.le_refl _) (hne _ _ (fun e => (hG.n2 k hkl).1 e.symm)) (World.frozen?_setCell _ _ _ _) (fun g hg _ _ => Below.heap_setCell wr _ _ g (fun e => by have e2 : g = bg k := e; have := (hG.n2 k hkl).2.2; omega))⟩
  · by_cases e : a = k
    · have e3 : a = I.dA i % I.nA := by rw [← hk]; exact e
      rw [if_pos e3]
      have h5 := h.go a ha y hy
      rw [if_pos e3] at h5
      rw [e] at h5 ⊢
      by_cases ey : y = x
      · rw [ey, World.cell?_setCell_same _ _ _ (by rw [← ey]; exact h5), decide_eq_true (by omega : I.dL i ≤ x ∧ x < x + 1), Bool.or_true]
      · rw [World.cell?_setCell_other _ _ _ _ (fun e6 => ey (by cases e6; rfl)), h5]
        have e7 : decide (I.dL i ≤ y ∧ y < x) = decide (I.dL i ≤ y ∧ y < x + 1) := by
          by_cases e8 : I.dL i ≤ y ∧ y < x
          · rw [decide_eq_true e8, decide_eq_true (by omega)]
          · rw [decide_eq_false e8, decide_eq_false (by omega)]
        rw [e7]
    · rw [hne _ _ (hG.inj a k ha hkl e), h.go a ha y hy, if_neg (by rw [← hk]; exact e), if_neg (by rw [← hk]; exact e)]
theorem SJ.skip {I : Inp} {i x : Nat} {W : World} {bd : Nat} {bg : Nat → Nat} {s : Nat → Lvs} {v : Nat → Value} {lv : Nat → Nat → Value} {wr : World} (h : SJ I i x W bd bg s v lv wr) (h2 : I.tot (I.dA i % I.nA) ≤ x) : SJ I i (x + 1) W bd bg s v lv wr :=
  ⟨h.ok, h.dis, fun a ha y hy => by
    rw [h.go a ha y hy]
    by_cases e : a = I.dA i % I.nA
    · rw [if_pos e, if_pos e]
      rw [← e] at h2
      have e7 : decide (I.dL i ≤ y ∧ y < x) = decide (I.dL i ≤ y ∧ y < x + 1) := by
        by_cases e8 : I.dL i ≤ y ∧ y < x
        · rw [decide_eq_true e8, decide_eq_true (by omega)]
        · rw [decide_eq_false e8, decide_eq_false (by omega)]
      rw [e7]
    · rw [if_neg e, if_neg e], h.frz, h.fr⟩
theorem SJ.done {I : Inp} {i : Nat} {W : World} {bd : Nat} {bg : Nat → Nat} {s : Nat → Lvs} {v : Nat → Value} {lv : Nat → Nat → Value} {wr : World} (h : SJ I i (I.dL i + I.dS i % 80) W bd bg s v lv wr) : SV I (i + 1) W bd bg s v lv wr :=
  ⟨h.ok, h.dis, fun a ha y hy => by
    rw [h.go a ha y hy]
    rfl, h.frz, h.fr⟩
end Go.Proofs.YbulkdhcgDoor
