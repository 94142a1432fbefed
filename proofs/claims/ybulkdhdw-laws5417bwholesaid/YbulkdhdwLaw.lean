/-
  THE WALK of LawS5417BWhole.
-/
import Derived.Test.YbulkdhdwPut
namespace Go.Proofs.Ybulkdhdw
open Go.RowKit Go.Maps

/-- the maps' datum after k keys. -/
def Dt (ks vv : Nat → Int) : Nat → Dat
  | 0 => .map []
  | k + 1 => (Dt ks vv k).put (K (ks k)) (V (vv k))
theorem isKey (h : Int) : WideAt.IsKeyLit (K h) := trivial
theorem Dt_tidy (ks vv : Nat → Int) (k : Nat) : Tidy (Dt ks vv k) := by
  induction k with
  | zero => exact tidy_empty
  | succ k ih => exact ih.put (isKey _) _
theorem K_inj {a b : Int} (h : K a = K b) : a = b := by unfold K at h; simpa using h
theorem Dt_has (ks vv : Nat → Int) (n i : Nat) (h : i < n) : Maps.has (Dt ks vv n) (K (ks i)) = true := by
  induction n with
  | zero => omega
  | succ n ih =>
    unfold Dt
    by_cases e : K (ks i) = K (ks n)
    · rw [e]; exact has_put_same (Dt_tidy ks vv n).isMap (isKey _) _
    · rw [has_put_other e]
      exact ih (by rcases Nat.lt_succ_iff_lt_or_eq.1 h with h | h
                   · exact h
                   · subst h; exact absurd rfl e)

/-- one round of the first loop: both maps take the key. -/
theorem two_puts {w wr : World} {bi k : Nat} {D : Dat} {x v : Int} (ho1 : Owns wr bi k D) (ho2 : Owns wr (bi + 1) k D) (hk : k < 1048576) (hx : (Lit.int .u64 x).wf = true) (hv : (Lit.int .i64 v).wf = true) (hB : w.heap.size ≤ bi) (hbel : Below w.heap.size w wr) :
    ∃ w1 w2, (Instr.mapUpdate 26 (.map (some bi)) (.int .u64 x) (.int .i64 v)).run Yba.prog wr = .ok () w1 ∧ (Instr.mapUpdate 26 (.map (some (bi + 1))) (.int .u64 x) (.int .i64 v)).run Yba.prog w1 = .ok () w2 ∧
      Owns w2 bi (k + 1) (D.put (K x) (V v)) ∧ Owns w2 (bi + 1) (k + 1) (D.put (K x) (V v)) ∧ Below w.heap.size w w2 := by
  have hm : k < maxLen := by unfold maxLen; omega
  obtain ⟨w1, r1, o1, g1⟩ := World.ownsMap.update (w := wr) ho1 law Yba.underlying26 hm (keyOf_int_mk Yba.underlying25 hx) (plainElem_int Yba.underlying3 hv)
  have ho2' : Owns w1 (bi + 1) k D := World.ownsMap.kept ho2 g1 (by simp)
  obtain ⟨w2, r2, o2, g2⟩ := World.ownsMap.update (w := w1) ho2' law Yba.underlying26 hm (keyOf_int_mk Yba.underlying25 hx) (plainElem_int Yba.underlying3 hv)
  have b1 : Below w.heap.size w w1 := hbel.grown g1 hbel.size (fun j hj => by cases hj; exact hB)
  exact ⟨w1, w2, r1, r2, World.ownsMap.kept o1 g2 (by simp), o2, b1.grown g2 b1.size (fun j hj => by cases hj; omega)⟩

theorem eq_some24 (x : Addr) (n c : Nat) (W : World) : (binOp .eql 24 (.slice (some x) n c) (.slice none 0 0)).run Yba.prog W = .ok (.bool false) W := by kernel_rfl
theorem eq_none24 (W : World) : (binOp .eql 24 (.slice none 0 0) (.slice none 0 0)).run Yba.prog W = .ok (.bool true) W := by kernel_rfl
theorem eq_some27 (x : Addr) (n c : Nat) (W : World) : (binOp .eql 27 (.slice (some x) n c) (.slice none 0 0)).run Yba.prog W = .ok (.bool false) W := by kernel_rfl
theorem eq_none27 (n c : Nat) (W : World) : (binOp .eql 27 (.slice none n c) (.slice none 0 0)).run Yba.prog W = .ok (.bool true) W := by kernel_rfl
theorem neq_some (x : Addr) (n c : Nat) (W : World) : (binOp .neq 24 (.slice (some x) n c) (.slice none 0 0)).run Yba.prog W = .ok (.bool true) W := by kernel_rfl
theorem neq_none (W : World) : (binOp .neq 24 (.slice none 0 0) (.slice none 0 0)).run Yba.prog W = .ok (.bool false) W := by kernel_rfl

/-! ### the copy of the refs -/
structure Rows2 (w : World) (g k : Nat) (rh ra : Nat → Int) : Prop where
  one : ∀ i, i < k → w.cell? ⟨g, i * 2, none⟩ = some (.int .u64 (rh i))
  two : ∀ i, i < k → w.cell? ⟨g, i * 2 + 1, none⟩ = some (.int .i64 (ra i))
structure Room2 (w : World) (g n : Nat) : Prop where
  cell : ∀ j, j < n * 2 → (w.cell? ⟨g, j, none⟩).isSome = true
  free : ∀ j, w.frozen? ⟨g, j, none⟩ = false
def zref : Value := .agg #[.int .u64 0, .int .i64 0]
def zrow (n : Nat) : Obj := .cells (madeCells zref.cells (n * 2)) 31
theorem make_run (n : Nat) (hn : n ≤ 1048576) (w : World) : (Instr.makeSlice 27 (.int .i64 (n : Int)) (.int .i64 (n : Int))).run Yba.prog w = .ok (.slice (some ⟨w.heap.size, 0, none⟩) n n) (w.alloc (zrow n)) := by
  obtain ⟨i, hi, hz, hs, hb⟩ := info_parts Yba.info31
  have hr := run_make (P := Yba.prog) w 27 31 i zref Yba.underlying27 hi hz .i64 .i64 n n (by omega) (Int.le_refl _) (by rw [hb]; omega) (by omega)
  simp only [Int.toNat_natCast, hs] at hr
  exact hr
theorem room_new (w : World) (n : Nat) : Room2 (w.alloc (zrow n)) w.heap.size n := by
  refine ⟨fun j hj => ?_, fun j => ?_⟩
  · unfold zrow
    rw [World.cell?_alloc_at _ _ _ _ rfl, Array.getElem?_eq_getElem (by rw [size_madeCells]; omega)]
    rfl
  · unfold zrow
    exact World.frozen?_alloc_at _ _ _ _ rfl
theorem copy_step {wr wv : World} {g n i q : Nat} {rh ra : Nat → Int} (hr : Rows2 wv g i rh ra) (hm : Room2 wv g n) (hi : i < n) (hg : wr.heap.size ≤ g) (hb : Below wr.heap.size wr wv) :
    let W := ((wv.setCell ⟨g, i * 2, none⟩ (.int .u64 (rh i))).setCell ⟨g, i * 2 + 1, none⟩ (.int .i64 (ra i))).drewN q
    Rows2 W g (i + 1) rh ra ∧ Room2 W g n ∧ Below wr.heap.size wr W := by
  intro W
  obtain ⟨u0, e0⟩ := Option.isSome_iff_exists.1 (hm.cell (i * 2) (by omega))
  obtain ⟨u1, e1⟩ := Option.isSome_iff_exists.1 (hm.cell (i * 2 + 1) (by omega))
  have n01 : (⟨g, i * 2, none⟩ : Addr) ≠ ⟨g, i * 2 + 1, none⟩ := by simp
  have n10 : (⟨g, i * 2 + 1, none⟩ : Addr) ≠ ⟨g, i * 2, none⟩ := by simp
  refine ⟨⟨fun j hj => ?_, fun j hj => ?_⟩, ⟨fun j hj => ?_, fun j => ?_⟩, ?_⟩
  · show (((wv.setCell _ _).setCell _ _).drewN q).cell? _ = _
    rw [World.cell?_drewN]
    by_cases e : j = i
    · subst e
      rw [World.cell?_setCell_other _ _ _ _ n10, World.cell?_setCell_same _ _ _ e0]
    · rw [World.cell?_setCell_other _ _ _ _ (by first | (simp; done) | (simp; omega)), World.cell?_setCell_other _ _ _ _ (by first | (simp; done) | (simp; omega))]
      exact hr.one j (by omega)
  · show (((wv.setCell _ _).setCell _ _).drewN q).cell? _ = _
    rw [World.cell?_drewN]
    by_cases e : j = i
    · subst e
      rw [World.cell?_setCell_same _ _ _ (u := u1) (by rw [World.cell?_setCell_other _ _ _ _ n01]; exact e1)]
    · rw [World.cell?_setCell_other _ _ _ _ (by first | (simp; done) | (simp; omega)), World.cell?_setCell_other _ _ _ _ (by first | (simp; done) | (simp; omega))]
      exact hr.two j (by omega)
  · obtain ⟨v, hv⟩ := Option.isSome_iff_exists.1 (hm.cell j hj)
    obtain ⟨v1, hv1⟩ := cell?_setCell_some (w := wv) (p := ⟨g, i * 2, none⟩) (x := .int .u64 (rh i)) hv
    obtain ⟨v2, hv2⟩ := cell?_setCell_some (w := wv.setCell ⟨g, i * 2, none⟩ (.int .u64 (rh i))) (p := ⟨g, i * 2 + 1, none⟩) (x := .int .i64 (ra i)) hv1
    show ((((wv.setCell _ _).setCell _ _).drewN q).cell? _).isSome = true
    rw [World.cell?_drewN, hv2]; rfl
  · show (((wv.setCell _ _).setCell _ _).drewN q).frozen? _ = false
    rw [World.frozen?_drewN, World.frozen?_setCell, World.frozen?_setCell]; exact hm.free j
  · exact below_drewN ((hb.setCell (p := ⟨g, i * 2, none⟩) hg _).setCell (p := ⟨g, i * 2 + 1, none⟩) hg _) q
/-- the slice 'col' behind its statement. -/
def Col (wr wc : World) (a2 ao : Option Addr) (nc : Nat) (rh ra : Nat → Int) : Prop :=
  ao.isSome = a2.isSome ∧ (ao = none → nc = 0 ∧ nc = 0) ∧ (∀ x, ao = some x → ∃ g, x = ⟨g, 0, none⟩ ∧ wr.heap.size ≤ g ∧ Rows2 wc g nc rh ra) ∧ Below wr.heap.size wr wc

/-! ### behind put -/
/-- the refs' cells, one behind the other. -/
def oldsOf (rh ra : Nat → Int) : Nat → List Value
  | 0 => []
  | n + 1 => oldsOf rh ra n ++ [.int .u64 (rh n), .int .i64 (ra n)]
theorem oldsOf_length (rh ra : Nat → Int) (n : Nat) : (oldsOf rh ra n).length = n * 2 := by
  induction n with
  | zero => rfl
  | succ n ih => unfold oldsOf; rw [List.length_append, ih]; simp; omega
theorem oldsOf_one (rh ra : Nat → Int) (n i : Nat) (h : i < n) : (oldsOf rh ra n)[i * 2]? = some (.int .u64 (rh i)) := by
  induction n with
  | zero => omega
  | succ n ih =>
    unfold oldsOf
    have hl := oldsOf_length rh ra n
    by_cases e : i = n
    · subst e; rw [List.getElem?_append_right (by omega), hl]; simp
    · rw [List.getElem?_append_left (by omega)]; exact ih (by omega)
theorem oldsOf_two (rh ra : Nat → Int) (n i : Nat) (h : i < n) : (oldsOf rh ra n)[i * 2 + 1]? = some (.int .i64 (ra i)) := by
  induction n with
  | zero => omega
  | succ n ih =>
    unfold oldsOf
    have hl := oldsOf_length rh ra n
    by_cases e : i = n
    · subst e; rw [List.getElem?_append_right (by omega), hl]; simp
    · rw [List.getElem?_append_left (by omega)]; exact ih (by omega)
theorem Rows2.olds {w : World} {g n : Nat} {rh ra : Nat → Int} (h : Rows2 w g n rh ra) : ∀ j u, (oldsOf rh ra n)[j]? = some u → w.cell? ((⟨g, 0, none⟩ : Addr).add j) = some u := by
  intro j u hj
  have hl := oldsOf_length rh ra n
  have hlt : j < n * 2 := by have := (List.getElem?_eq_some_iff.1 hj).1; omega
  rw [Addr.add_mid, Nat.zero_add]
  rcases (show (∃ i, i < n ∧ j = i * 2) ∨ (∃ i, i < n ∧ j = i * 2 + 1) from by
    rcases Nat.mod_two_eq_zero_or_one j with e | e
    · exact Or.inl ⟨j / 2, by omega, by omega⟩
    · exact Or.inr ⟨j / 2, by omega, by omega⟩) with ⟨i, hi, rfl⟩ | ⟨i, hi, rfl⟩
  · rw [h.one i hi, ← hj, oldsOf_one _ _ _ _ hi]
  · rw [h.two i hi, ← hj, oldsOf_two _ _ _ _ hi]

/-- the struct's cells that the law reads, the maps, the refs. -/
structure Aft (w W : World) (bm bl bi : Nat) (base hbase : Int) (D D' : Dat) (k N : Nat) (ao : Option Addr) (n' cap nc : Nat) (rh ra : Nat → Int) : Prop where
  c0 : W.cell? ⟨bm, 0, none⟩ = some (.pointer none)
  c4 : W.cell? ⟨bm, 4, none⟩ = some (.int .i64 base)
  c5 : W.cell? ⟨bm, 5, none⟩ = some (.int .i64 hbase)
  c6 : W.cell? ⟨bm, 6, none⟩ = some (.map (some bi))
  c7 : W.cell? ⟨bm, 7, none⟩ = some (.slice ao n' cap)
  c8 : W.cell? ⟨bm, 8, none⟩ = some (.slice (some ⟨bl, 0, none⟩) 1 1)
  cl : W.cell? ⟨bl, 0, none⟩ = some (.string ⟨#[97]⟩)
  o1 : Owns W bi N D'
  o2 : Owns W (bi + 1) k D
  nil_ : ao = none → nc = 0
  rows : ∀ x, ao = some x → ∃ g, x = ⟨g, 0, none⟩ ∧ Rows2 W g nc rh ra
  bel : Below w.heap.size w W

theorem cell_kept {w w1 : World} {r : Option Nat} (hg : w.grownBy w1 r) {a : Addr} {v : Value} (h : w.cell? a = some v) (hne : some a.block ≠ r) : w1.cell? a = some v := hg.cell h hne

/-- put has appended. -/
theorem Aft.appended {w W w1 : World} {bm bl bi : Nat} {base hbase h a : Int} {D : Dat} {k nc q : Nat} {ao : Option Addr} {rh ra : Nat → Int} {v' : Value}
    (A : Aft w W bm bl bi base hbase D D k k ao nc nc nc rh ra) (hbi' : bi + 1 < bm) (hwb : w.heap.size ≤ bm)
    (hown : w1.ownsRow W.heap.size 31 2 v' (nc + 1) (oldsOf rh ra nc ++ [.int .u64 h, .int .i64 a])) (hg : W.grownBy w1 none) :
    ∃ g cap, Aft w ((w1.setCell ⟨bm, 7, none⟩ v').drewN q) bm bl bi base hbase D D k k (some ⟨g, 0, none⟩) (nc + 1) cap nc rh ra ∧
      ((w1.setCell ⟨bm, 7, none⟩ v').drewN q).cell? ⟨g, nc * 2, none⟩ = some (.int .u64 h) ∧ ((w1.setCell ⟨bm, 7, none⟩ v').drewN q).cell? ⟨g, nc * 2 + 1, none⟩ = some (.int .i64 a) := by
  obtain ⟨g, cap, rfl, hgw, hgl⟩ := hown.form (by omega)
  have hbm := World.block_lt_of_cell? W _ A.c7
  have hgm : g ≠ bm := by show g ≠ bm; have : bm < W.heap.size := hbm; omega
  have other : ∀ (x : Addr) (u : Value), x ≠ ⟨bm, 7, none⟩ → w1.cell? x = some u → ((w1.setCell ⟨bm, 7, none⟩ (.slice (some ⟨g, 0, none⟩) (nc + 1) cap)).drewN q).cell? x = some u := by
    intro x u hx hu
    rw [World.cell?_drewN, World.cell?_setCell_other _ _ _ _ (Ne.symm hx)]; exact hu
  have old : ∀ (x : Addr) (u : Value), x ≠ ⟨bm, 7, none⟩ → W.cell? x = some u → ((w1.setCell ⟨bm, 7, none⟩ (.slice (some ⟨g, 0, none⟩) (nc + 1) cap)).drewN q).cell? x = some u :=
    fun x u hx hu => other x u hx (hg.cell hu (by simp))
  have hl := oldsOf_length rh ra nc
  have blk : ∀ b, b < W.heap.size → b ≠ bm → ((w1.setCell ⟨bm, 7, none⟩ (.slice (some ⟨g, 0, none⟩) (nc + 1) cap)).drewN q).heap[b]? = W.heap[b]? := by
    intro b hb hne
    show (w1.setCell ⟨bm, 7, none⟩ _).heap[b]? = _
    rw [Below.heap_setCell _ _ _ _ hne]
    exact hg.block b hb (by simp)
  refine ⟨g, cap, ⟨old _ _ (by simp) A.c0, old _ _ (by simp) A.c4, old _ _ (by simp) A.c5, old _ _ (by simp) A.c6, ?_, old _ _ (by simp) A.c8, old _ _ (by simp) A.cl, A.o1.same (blk _ (by have : bm < W.heap.size := hbm; omega) (by omega)), A.o2.same (blk _ (by have : bm < W.heap.size := hbm; omega) (by omega)), fun e => (by cases e), fun x hx => ⟨g, by cases hx; rfl, ⟨fun i hi => ?_, fun i hi => ?_⟩⟩, ?_⟩, ?_, ?_⟩
  · rw [World.cell?_drewN, World.cell?_setCell_same _ _ _ (hg.cell A.c7 (by simp))]
  · refine other _ _ (fun e => hgm (congrArg Addr.block e)) ?_
    rw [hown.cellAt (i * 2) (by omega), List.getElem?_append_left (by omega)]; exact oldsOf_one _ _ _ _ hi
  · refine other _ _ (fun e => hgm (congrArg Addr.block e)) ?_
    rw [hown.cellAt (i * 2 + 1) (by omega), List.getElem?_append_left (by omega)]; exact oldsOf_two _ _ _ _ hi
  · have b1 : Below w.heap.size w w1 := A.bel.grown hg A.bel.size (fun j hj => by cases hj)
    exact below_drewN (b1.setCell (p := ⟨bm, 7, none⟩) hwb _) q
  · refine other _ _ (fun e => hgm (congrArg Addr.block e)) ?_
    rw [hown.cellAt (nc * 2) (by omega), List.getElem?_append_right (by omega), hl]; simp
  · refine other _ _ (fun e => hgm (congrArg Addr.block e)) ?_
    rw [hown.cellAt (nc * 2 + 1) (by omega), List.getElem?_append_right (by omega), hl]; simp

/-- put has stored. -/
theorem Aft.stored {w W w' : World} {bm bl bi : Nat} {base hbase : Int} {D D' : Dat} {k nc : Nat} {ao : Option Addr} {rh ra : Nat → Int}
    (A : Aft w W bm bl bi base hbase D D k k ao nc nc nc rh ra) (hbi : bi < bm) (hbl : bl ≠ bi) (hwb : w.heap.size ≤ bi) (hrow : ∀ x, ao = some x → x.block ≠ bi)
    (hown : Owns w' bi (k + 1) D') (hg : W.grownBy w' (some bi)) : Aft w w' bm bl bi base hbase D D' k (k + 1) ao nc nc nc rh ra := by
  have old : ∀ (x : Addr) (u : Value), x.block ≠ bi → W.cell? x = some u → w'.cell? x = some u := fun x u hx hu => hg.cell hu (by simpa using hx)
  have hne : bm ≠ bi := by omega
  refine ⟨old _ _ hne A.c0, old _ _ hne A.c4, old _ _ hne A.c5, old _ _ hne A.c6, old _ _ hne A.c7, old _ _ hne A.c8, old _ _ hbl A.cl, hown, World.ownsMap.kept A.o2 hg (by simp), A.nil_, fun x hx => ?_, ?_⟩
  · obtain ⟨g, rfl, hr⟩ := A.rows x hx
    have hg' := hrow _ hx
    exact ⟨g, rfl, ⟨fun i hi => old _ _ hg' (hr.one i hi), fun i hi => old _ _ hg' (hr.two i hi)⟩⟩
  · exact A.bel.grown hg A.bel.size (fun j hj => by cases hj; exact hwb)

/-- what a key that was there reads as behind put. -/
theorem key_kept {D D' : Dat} {h a : Int} (hy : Maps.has D (K h) = true → D' = D) (hn : Maps.has D (K h) = false → D' = D.put (K h) (V a)) {x : Int} (hx : Maps.has D (K x) = true) :
    Maps.has D' (K x) = true ∧ ∀ z, D'.atKey (K x) z = D.atKey (K x) z := by
  cases e : Maps.has D (K h)
  · rw [hn e]
    have hne : K x ≠ K h := fun e' => by rw [e', e] at hx; cases hx
    exact ⟨by rw [has_put_other hne]; exact hx, fun z => atKey_put_other hne _ _⟩
  · rw [hy e]; exact ⟨hx, fun _ => rfl⟩

/-- a slice of numbers that came in. -/
def Nums (w : World) (q : IntKind) (a : Option Addr) (n : Nat) (f : Nat → Int) : Prop := ∀ i, i < n → ∃ b off, a = some ⟨b, off, none⟩ ∧ w.cell? ⟨b, off + i, none⟩ = some (.int q (f i)) ∧ (Lit.int q (f i)).wf = true
/-- the refs that came in. -/
def Refs (w : World) (a : Option Addr) (n : Nat) (rh ra : Nat → Int) : Prop := ∀ i, i < n → ∃ b off, a = some ⟨b, off, none⟩ ∧ w.cell? ⟨b, off + i * 2, none⟩ = some (.int .u64 (rh i)) ∧ w.cell? ⟨b, off + i * 2 + 1, none⟩ = some (.int .i64 (ra i))

def vvOf (nv : Nat) (vs : Nat → Int) (k : Nat) : Int := if 0 < nv then vs (k % nv) else k
def sel (pick : Int) (nk : Nat) : Bool := decide (pick % 2 = 1 ∧ 0 < nk)
def hashOf (pick hash : Int) (nk : Nat) (ks : Nat → Int) : Int := if sel pick nk then ks (((pick / 2) % (nk : Int)).toNat) else hash

set_option maxRecDepth 20000 in
set_option maxHeartbeats 1000000 in
theorem law_any (a0 : Option Addr) (nk cap0 : Nat) (ks : Nat → Int) (a1 : Option Addr) (nv cap1 : Nat) (vs : Nat → Int) (a2 : Option Addr) (nc cap2 : Nat) (rh ra : Nat → Int)
    (hash at_ pick base hbase : Int) (w : World) (hn : nk + nv + nc ≤ 1048576) (h0 : Nums w .u64 a0 nk ks) (h1 : Nums w .i64 a1 nv vs) (h2 : Refs w a2 nc rh ra) (hnil : a2 = none → nc = 0 ∧ cap2 = 0)
    (wh : (Lit.int .u64 hash).wf = true) (wa : (Lit.int .i64 at_).wf = true) (p0 : 0 ≤ pick) (p1 : pick ≤ 255) :
    Calls Yba.prog 3 #[.slice a0 nk cap0, .slice a1 nv cap1, .slice a2 nc cap2, .int .u64 hash, .int .i64 at_, .int .u8 pick, .int .i64 base, .int .i64 hbase] w fun e w' => e = .returned (.bool true) ∧ Below w.heap.size w w' := by
  have H0 : Hid (Nums w .u64 a0 nk ks) := h0
  have H1 : Hid (Nums w .i64 a1 nv vs) := h1
  have H2 : Hid (Refs w a2 nc rh ra) := h2
  have HN : Hid (a2 = none → nc = 0 ∧ cap2 = 0) := hnil
  have WH : Hid ((Lit.int .u64 hash).wf = true) := wh
  have WA : Hid ((Lit.int .i64 at_).wf = true) := wa
  have hmm := @run_makeMap Yba.prog
  clear h0 h1 h2 hnil wh wa
  go_enter Yba.func3, Yba.ntmps3
  go_upto_region 3 with fail
  go_cut [52] from 45 to 52 (fun b wc => w = wc ∧ b = .bool (sel pick nk))
  case first =>
    by_cases e1 : pick % 2 = 1
    · have e1' : (pick % 2 == 1) = true := by simp [e1]
      have E1 : Hid (pick % 2 = 1) := e1
      clear e1
      by_cases e2 : 0 < nk
      · go_wp2
        go_meet
        case rel => exact ⟨rfl, by unfold sel; simp [E1.out, e2]⟩
      · go_wp2
        go_meet
        case rel => exact ⟨rfl, by unfold sel; simp [E1.out, e2]⟩
    · have e1' : (pick % 2 == 1) = false := by simp [e1]
      have E1 : Hid (¬ pick % 2 = 1) := e1
      clear e1
      go_wp2
      go_meet
      case rel => exact ⟨rfl, by unfold sel; simp [E1.out]⟩
  case rest =>
    obtain ⟨rfl, rfl⟩ := hcut
    go_upto_if 52 with fail
    go_cut [3] from 45 to 61 (fun x wc => w = wc ∧ x = .int .u64 (hashOf pick hash nk ks))
    case first =>
      cases hsel : sel pick nk
      · have e0 : hashOf pick hash nk ks = hash := by unfold hashOf; rw [hsel]; rfl
        go_wp2
        go_meet
        case rel => exact ⟨rfl, by rw [e0]⟩
      · have hs : pick % 2 = 1 ∧ 0 < nk := by unfold sel at hsel; simpa using hsel
        have hk0 : (0 : Int) < (nk : Int) := by omega
        have hq := Int.emod_nonneg (pick / 2) (show (nk : Int) ≠ 0 by omega)
        have hq2 := Int.emod_lt_of_pos (pick / 2) hk0
        have e0 : hashOf pick hash nk ks = ks (((pick / 2) % (nk : Int)).toNat) := by unfold hashOf; rw [hsel]; rfl
        obtain ⟨b, off, rfl, hc, _⟩ := H0.out (((pick / 2) % (nk : Int)).toNat) (by omega)
        have E0 : Hid (hashOf pick hash nk ks = ks (((pick / 2) % (nk : Int)).toNat)) := e0
        clear e0 hs
        go_wp2
        go_meet
        case rel => exact ⟨rfl, by rw [E0.out]⟩
    case rest =>
      obtain ⟨rfl, rfl⟩ := hcut
      obtain ⟨h, WHh⟩ : ∃ h, h = hashOf pick hash nk ks ∧ Hid ((Lit.int .u64 h).wf = true) := ⟨_, rfl, by
        show _ = _
        unfold hashOf
        cases hsel : sel pick nk
        · exact WH.out
        · have hs : pick % 2 = 1 ∧ 0 < nk := by unfold sel at hsel; simpa using hsel
          have hq := Int.emod_nonneg (pick / 2) (show (nk : Int) ≠ 0 by omega)
          have hq2 := Int.emod_lt_of_pos (pick / 2) (show (0 : Int) < (nk : Int) by omega)
          obtain ⟨_, _, _, _, hw⟩ := H0.out (((pick / 2) % (nk : Int)).toNat) (by omega)
          exact hw⟩
      obtain ⟨hh, WHH⟩ := WHh
      rw [← hh]
      clear hh WH
      go_wp2_with fail
      clear hmm
      have HNV : Hid (nk + nv + nc ≤ 1048576) := hn
      go_loopg [66] nk (fun g i wr => ∃ k : Nat, k + g = nk ∧ i = .int .i64 k ∧ Owns wr w.heap.size k (Dt ks (vvOf nv vs) k) ∧ Owns wr (w.heap.size + 1) k (Dt ks (vvOf nv vs) k) ∧ Below w.heap.size w wr)
      case atStart =>
        refine ⟨0, by omega, rfl, World.ownsMap.alloc (World.ownsMap_made _ _ _ _) _, ?_, ((Below.refl _ _).alloc (Nat.le_refl _) _).alloc (by simp) _⟩
        have := World.ownsMap_made (H := Unit) (w.alloc (.map #[] 0)) Yba.prog 25 (plainElem Yba.prog 3)
        rw [World.size_alloc] at this
        exact this
      case round =>
        obtain ⟨k, hk, rfl, ho1, ho2, hbel⟩ := hrel
        have HO1 : Hid (Owns wr w.heap.size k (Dt ks (vvOf nv vs) k)) := ho1
        have HO2 : Hid (Owns wr (w.heap.size + 1) k (Dt ks (vvOf nv vs) k)) := ho2
        have HB : Hid (Below w.heap.size w wr) := hbel
        have HK : Hid (k + gk = nk) := hk
        clear ho1 ho2 hbel hk
        by_cases hlt : k < nk
        · obtain ⟨b, off, rfl, hc, hwk⟩ := H0.out k hlt
          have hck : wr.cell? ⟨b, off + k, none⟩ = some (.int .u64 (ks k)) := (HB.out.cell (p := ⟨b, off + k, none⟩) (World.block_lt_of_cell? w _ hc)).trans hc
          clear hc
          by_cases hv : 0 < nv
          · have hem : ((k : Int) % (nv : Int)).toNat = k % nv := by
              rw [show (k : Int) % (nv : Int) = ((k % nv : Nat) : Int) from (Int.natCast_emod k nv).symm, Int.toNat_natCast]
            have hq := Int.emod_nonneg (k : Int) (show (nv : Int) ≠ 0 by omega)
            have hq2 := Int.emod_lt_of_pos (k : Int) (show (0 : Int) < (nv : Int) by omega)
            obtain ⟨b', off', rfl, hc', hwv⟩ := H1.out (k % nv) (Nat.mod_lt _ hv)
            have hcv : wr.cell? ⟨b', off' + ((k : Int) % (nv : Int)).toNat, none⟩ = some (.int .i64 (vs (k % nv))) := by
              rw [hem]; exact (HB.out.cell (p := ⟨b', off' + k % nv, none⟩) (World.block_lt_of_cell? w _ hc')).trans hc'
            have hvv : Hid (vvOf nv vs k = vs (k % nv)) := by show _ = _; unfold vvOf; rw [if_pos hv]
            obtain ⟨w1, w2, r1, r2, o1, o2, bb⟩ := two_puts HO1.out HO2.out (by omega) hwk hwv (Nat.le_refl _) HB.out
            have R1 : Hid (Owns w2 w.heap.size (k + 1) ((Dt ks (vvOf nv vs) k).put (K (ks k)) (V (vs (k % nv))))) := o1
            have R2 : Hid (Owns w2 (w.heap.size + 1) (k + 1) ((Dt ks (vvOf nv vs) k).put (K (ks k)) (V (vs (k % nv))))) := o2
            have RB : Hid (Below w.heap.size w w2) := bb
            have hcv2 : wr.cell? ⟨b', off' + k % nv, none⟩ = some (.int .i64 (vs (k % nv))) := by rw [← hem]; exact hcv
            clear o1 o2 bb hem hc' hwk hwv
            go_wp2
            go_roundg (gk - 1)
            case measure => have := HK.out; omega
            case rel => exact ⟨k + 1, by have := HK.out; omega, by go_num, by unfold Dt; rw [hvv.out]; exact R1.out, by unfold Dt; rw [hvv.out]; exact R2.out, RB.out⟩
          · have hvv : Hid (vvOf nv vs k = (k : Int)) := by show _ = _; unfold vvOf; rw [if_neg hv]
            obtain ⟨w1, w2, r1, r2, o1, o2, bb⟩ := two_puts (v := (k : Int)) HO1.out HO2.out (by omega) hwk (wf_i64 (by omega) (by omega)) (Nat.le_refl _) HB.out
            have R1 : Hid (Owns w2 w.heap.size (k + 1) ((Dt ks (vvOf nv vs) k).put (K (ks k)) (V (k : Int)))) := o1
            have R2 : Hid (Owns w2 (w.heap.size + 1) (k + 1) ((Dt ks (vvOf nv vs) k).put (K (ks k)) (V (k : Int)))) := o2
            have RB : Hid (Below w.heap.size w w2) := bb
            clear o1 o2 bb hwk
            go_wp2
            go_roundg (gk - 1)
            case measure => have := HK.out; omega
            case rel => exact ⟨k + 1, by have := HK.out; omega, by go_num, by unfold Dt; rw [hvv.out]; exact R1.out, by unfold Dt; rw [hvv.out]; exact R2.out, RB.out⟩
        · obtain rfl : k = nk := by have := HK.out; omega
          clear hlt HK
          obtain ⟨wo, rfl⟩ : ∃ wo : World, wo = wr := ⟨_, rfl⟩
          have HT : Hid (Tidy (Dt ks (vvOf nv vs) k)) := Dt_tidy _ _ _
          have HH : Hid (∀ i, i < k → Maps.has (Dt ks (vvOf nv vs) k) (K (ks i)) = true) := fun i hi => Dt_has _ _ _ _ hi
          generalize Dt ks (vvOf nv vs) k = D at HO1 HO2 HT HH
          have nns := neq_some
          have nnn := neq_none
          go_upto_region 17 with fail
          go_cut [90] from 89 to 90 (fun b wc => wo = wc ∧ b = .bool a2.isSome)
          case first =>
            cases a2 with
            | none =>
              obtain ⟨rfl, rfl⟩ := HN.out rfl
              go_wp2
              go_meet
              case rel => exact ⟨rfl, rfl⟩
            | some x =>
              go_wp2
              go_meet
              case rel => exact ⟨rfl, rfl⟩
          case rest =>
            obtain ⟨rfl, rfl⟩ := hcut
            clear nns nnn
            go_upto_if 90 with fail
            go_cut [22] from 89 to 113 (fun v wc => ∃ ao, v = .slice ao nc nc ∧ Col wo wc a2 ao nc rh ra)
            case first =>
              cases a2 with
              | none =>
                obtain ⟨rfl, rfl⟩ := HN.out rfl
                go_wp2
                go_meet
                case rel => exact ⟨none, rfl, rfl, fun _ => ⟨rfl, rfl⟩, fun x hx => (by cases hx), Below.refl _ _⟩
              | some x =>
                have hmk := make_run nc (by omega)
                go_wp2_with fail
                clear hmk
                go_loopg [96] nc (fun g i wv => ∃ m : Nat, m + g = nc ∧ i = .int .i64 m ∧ Rows2 wv wo.heap.size m rh ra ∧ Room2 wv wo.heap.size nc ∧ Below wo.heap.size wo wv)
                case atStart => exact ⟨0, by omega, rfl, ⟨fun i hi => by omega, fun i hi => by omega⟩, room_new _ _, (Below.refl _ _).alloc (Nat.le_refl _) _⟩
                case round =>
                  obtain ⟨m, hm, rfl, hr, hroom, hb⟩ := hrel
                  have HR : Hid (Rows2 wr wo.heap.size m rh ra) := hr
                  have HRM : Hid (Room2 wr wo.heap.size nc) := hroom
                  have HBB : Hid (Below wo.heap.size wo wr) := hb
                  have HM : Hid (m + gk = nc) := hm
                  by_cases hlt : m < nc
                  · obtain ⟨b, off, hx, q0, q1⟩ := H2.out m hlt
                    cases hx
                    have hbl := World.block_lt_of_cell? w _ q0
                    have z1 := HB.out.size
                    have s0 : wr.cell? ⟨b, off + m * 2, none⟩ = some (.int .u64 (rh m)) := (hb.cell (p := ⟨b, off + m * 2, none⟩) (Nat.lt_of_lt_of_le hbl z1)).trans ((HB.out.cell (p := ⟨b, off + m * 2, none⟩) hbl).trans q0)
                    have s1 : wr.cell? ⟨b, off + m * 2 + 1, none⟩ = some (.int .i64 (ra m)) := (hb.cell (p := ⟨b, off + m * 2 + 1, none⟩) (Nat.lt_of_lt_of_le hbl z1)).trans ((HB.out.cell (p := ⟨b, off + m * 2 + 1, none⟩) hbl).trans q1)
                    obtain ⟨u0, d0⟩ := Option.isSome_iff_exists.1 (hroom.cell (m * 2) (by omega))
                    obtain ⟨u1, d1⟩ := Option.isSome_iff_exists.1 (hroom.cell (m * 2 + 1) (by omega))
                    have f0 := hroom.free (m * 2)
                    have f1 := hroom.free (m * 2 + 1)
                    have i1 : (0 : Int) ≤ (m : Int) := by omega
                    have i2 : (m : Int) < (nc : Int) := by omega
                    clear hr hroom hb hm q0 q1
                    go_upto_region 22 with fail
                    go_region
                    go_wp2
                    go_roundg (gk - 1)
                    case measure => have := HM.out; omega
                    case rel =>
                      have R := copy_step (q := 1) HR.out HRM.out hlt (Nat.le_refl _) HBB.out
                      exact ⟨m + 1, by have := HM.out; omega, by go_num, R.1, R.2.1, R.2.2⟩
                  · obtain rfl : m = nc := by omega
                    clear hr hroom hb hm
                    go_wp2
                    go_meet
                    case rel => exact ⟨_, rfl, rfl, fun h => (by cases h), fun x hx => ⟨wo.heap.size, by cases hx; rfl, Nat.le_refl _, HR.out⟩, HBB.out⟩
            case rest =>
              obtain ⟨ao, rfl, hcol⟩ := hcut
              obtain ⟨wx, rfl⟩ : ∃ wx : World, wx = wc := ⟨_, rfl⟩
              have HC : Hid (Col wo wx a2 ao nc rh ra) := hcol
              have l1 := World.ownsMap.lt HO1.out
              have l2 := World.ownsMap.lt HO2.out
              have HX1 : Hid (Owns wx w.heap.size k D) := HO1.out.same (hcol.2.2.2.block _ l1)
              have HX2 : Hid (Owns wx (w.heap.size + 1) k D) := HO2.out.same (hcol.2.2.2.block _ l2)
              have HXB : Hid (Below w.heap.size w wx) := HB.out.trans (hcol.2.2.2.mono HB.out.size)
              have HOO : Hid (Owns wo (w.heap.size + 1) k D) := HO2.out
              clear hcol l1 l2 HO1 HO2
              go_upto_region 26 with fail
              have hz0 := World.ownsMap.lt HX2.out
              generalize hW : (wx.alloc (.cells #[.string ⟨#[97]⟩] 9)).alloc (.cells #[.pointer none, .pointer none, .int .i64 0, .slice none 0 0, .int .i64 base, .int .i64 hbase, .map (some w.heap.size), .slice ao nc nc, .slice (some ⟨wx.heap.size, 0, none⟩) 1 1] 40) = W
              have HA : Hid (Aft w W (wx.heap.size + 1) wx.heap.size w.heap.size base hbase D D k k ao nc nc nc rh ra) := by
                rw [← hW]
                have hsz : (wx.alloc (.cells #[.string ⟨#[97]⟩] 9)).heap.size = wx.heap.size + 1 := World.size_alloc _ _
                have at_new : ∀ (c : Array Value) (T : TypeId) (j : Nat), ((wx.alloc (.cells #[.string ⟨#[97]⟩] 9)).alloc (.cells c T)).cell? ⟨wx.heap.size + 1, j, none⟩ = c[j]? := fun c T j => World.cell?_alloc_at _ _ _ _ hsz.symm
                refine ⟨(at_new _ _ _).trans rfl, (at_new _ _ _).trans rfl, (at_new _ _ _).trans rfl, (at_new _ _ _).trans rfl, (at_new _ _ _).trans rfl, (at_new _ _ _).trans rfl, ?_, (HX1.out.alloc _).alloc _, (HX2.out.alloc _).alloc _, fun e => (HC.out.2.1 e).1, fun x hx => ?_, (HXB.out.alloc HXB.out.size _).alloc (by rw [hsz]; have := HXB.out.size; omega) _⟩
                · rw [World.cell?_alloc_past _ _ _ (by rw [hsz]; omega), World.cell?_alloc_at _ _ _ _ rfl]; rfl
                · obtain ⟨g, rfl, _, hr⟩ := HC.out.2.2.1 x hx
                  exact ⟨g, rfl, ⟨fun i hi => cell_alloc _ _ _ (cell_alloc _ _ _ (hr.one i hi)), fun i hi => cell_alloc _ _ _ (cell_alloc _ _ _ (hr.two i hi))⟩⟩
              have HF7 : Hid (W.frozen? ⟨wx.heap.size + 1, 7, none⟩ = false) := by
                rw [← hW]
                exact World.frozen?_alloc_at _ _ _ _ (World.size_alloc _ _).symm
              clear hW HX1 HX2 HXB
              obtain ⟨c, hrun, _⟩ := HA.out.o2.look_ok WHH.out
              have hrun0 := hrun 0
              rw [World.drewN_zero] at hrun0
              clear hrun
              go_upto_region 27 with fail
              clear hrun0
              go_cut [] from 128 to 132 (fun wc => ∃ (D' : Dat) (N : Nat) (ao' : Option Addr) (n' cap' : Nat), Aft w wc (wx.heap.size + 1) wx.heap.size w.heap.size base hbase D D' k N ao' n' cap' nc rh ra ∧
                (Maps.has D (K h) = true → D' = D ∧ n' = nc + 1 ∧ ∃ g, ao' = some ⟨g, 0, none⟩ ∧ wc.cell? ⟨g, nc * 2, none⟩ = some (.int .u64 h) ∧ wc.cell? ⟨g, nc * 2 + 1, none⟩ = some (.int .i64 at_)) ∧
                (Maps.has D (K h) = false → D' = D.put (K h) (V at_) ∧ n' = nc ∧ ao' = ao))
              case first =>
                rcases (show Hid (Maps.has D (K h) = false) ∨ Hid (Maps.has D (K h) = true) from by
                  cases e : Maps.has D (K h)
                  · exact Or.inl rfl
                  · exact Or.inr rfl) with hhas | hhas
                · go_wp2_with fail
                  refine (put_new (wx.heap.size + 1) w.heap.size k D h at_ WHH.out WA.out (by unfold maxLen; omega) hhas.out _ HA.out.c6 HA.out.o1).mono ?_
                  rintro e w' ⟨rfl, hown, hg⟩
                  have R : Hid (Aft w w' (wx.heap.size + 1) wx.heap.size w.heap.size base hbase D (D.put (K h) (V at_)) k (k + 1) ao nc nc nc rh ra) := by
                    refine HA.out.stored (by omega) (by omega) (Nat.le_refl _) (fun x hx => ?_) hown hg
                    obtain ⟨g, rfl, hgg, _⟩ := HC.out.2.2.1 x hx
                    have := World.ownsMap.lt HOO.out
                    show g ≠ w.heap.size
                    omega
                  clear hown hg
                  go_wp2
                  go_meet
                  case rel => exact ⟨_, _, _, _, _, R.out, fun e => absurd (e.symm.trans hhas.out) (by simp), fun _ => ⟨rfl, rfl, rfl⟩⟩
                · go_wp2_with fail
                  refine (put_has (wx.heap.size + 1) w.heap.size k nc D h at_ ao (oldsOf rh ra nc) WHH.out (by omega) hhas.out _ HA.out.c6 HA.out.c7 HF7.out HA.out.o1 HC.out.2.1 (oldsOf_length _ _ _) ?hold).mono ?_
                  case hold =>
                    intro b hb
                    obtain ⟨g, rfl, hr⟩ := HA.out.rows b hb
                    exact hr.olds
                  rintro e w' ⟨rfl, w1, v', q, rfl, hown, hg⟩
                  obtain ⟨g, cap, hA2, e1, e2⟩ := HA.out.appended (q := q) (by omega) (by omega) hown hg
                  have R : Hid (Aft w ((w1.setCell ⟨wx.heap.size + 1, 7, none⟩ v').drewN q) (wx.heap.size + 1) wx.heap.size w.heap.size base hbase D D k k (some ⟨g, 0, none⟩) (nc + 1) cap nc rh ra) := hA2
                  have R1 : Hid (((w1.setCell ⟨wx.heap.size + 1, 7, none⟩ v').drewN q).cell? ⟨g, nc * 2, none⟩ = some (.int .u64 h)) := e1
                  have R2 : Hid (((w1.setCell ⟨wx.heap.size + 1, 7, none⟩ v').drewN q).cell? ⟨g, nc * 2 + 1, none⟩ = some (.int .i64 at_)) := e2
                  clear hown hg hA2 e1 e2
                  go_wp2
                  go_meet
                  case rel => exact ⟨_, _, _, _, _, R.out, fun _ => ⟨rfl, rfl, g, rfl, R1.out, R2.out⟩, fun e => absurd (e.symm.trans hhas.out) (by simp)⟩
              case rest =>
                obtain ⟨D', N, ao', n', cap', hA, hyes, hno⟩ := hcut
                obtain ⟨wy, rfl⟩ : ∃ wy : World, wy = wc := ⟨_, rfl⟩
                have HY : Hid (Aft w wy (wx.heap.size + 1) wx.heap.size w.heap.size base hbase D D' k N ao' n' cap' nc rh ra) := hA
                have HYES : Hid (Maps.has D (K h) = true → D' = D ∧ n' = nc + 1 ∧ ∃ g, ao' = some ⟨g, 0, none⟩ ∧ wy.cell? ⟨g, nc * 2, none⟩ = some (.int .u64 h) ∧ wy.cell? ⟨g, nc * 2 + 1, none⟩ = some (.int .i64 at_)) := hyes
                have HNO : Hid (Maps.has D (K h) = false → D' = D.put (K h) (V at_) ∧ n' = nc ∧ ao' = ao) := hno
                have c0 := hA.c0
                have c4 := hA.c4
                have c5 := hA.c5
                have c6 := hA.c6
                have c7 := hA.c7
                have c8 := hA.c8
                have cl := hA.cl
                clear hA hyes hno HA HF7
                go_wp2_with fail
                go_loop [173] (fun i => ∃ j : Nat, j ≤ k ∧ i = .int .i64 j) (fun i => k - (intOf i).toNat)
                case atStart => exact ⟨0, Nat.zero_le _, rfl⟩
                case round =>
                  obtain ⟨j, hj, rfl⟩ := hrel
                  by_cases hlt : j < k
                  · obtain ⟨b, off, rfl, hc, hwk⟩ := H0.out j hlt
                    have hck : wy.cell? ⟨b, off + j, none⟩ = some (.int .u64 (ks j)) := (HY.out.bel.cell (p := ⟨b, off + j, none⟩) (World.block_lt_of_cell? w _ hc)).trans hc
                    obtain ⟨k1, k2⟩ := key_kept (fun e => (HYES.out e).1) (fun e => (HNO.out e).1) (HH.out j hlt)
                    obtain ⟨c1, hr1, t1⟩ := HY.out.o1.look_ok hwk
                    obtain ⟨c2, hr2, t2⟩ := HY.out.o2.look hwk
                    have e12 : c1 = c2 := by
                      rw [k2, t2] at t1
                      unfold V at t1
                      simpa using t1.symm
                    subst e12
                    have hr1' := hr1 0
                    rw [World.drewN_zero, k1] at hr1'
                    clear hc hr1 k1 k2 t1 t2 hwk c0 c4 c5 c7 c8 cl
                    go_wp2
                    go_round
                    case rel => exact ⟨j + 1, by omega, by go_num⟩
                    case measure => simp [intOf]; omega
                  · obtain rfl : j = k := by omega
                    clear hlt hj
                    go_upto_if 196 with fail
                    go_cut [27] from 122 to 276 (fun _ wc => Below wy.heap.size wy wc)
                    case first =>
                      cases hhas : Maps.has D (K h)
                      · obtain ⟨hD', rfl, rfl⟩ := HNO.out hhas
                        have hsz : (Maps.size D' : Int) = (Maps.size D : Int) + 1 := by
                          rw [hD', size_put HT.out, hhas]; simp
                        have hle := World.ownsMap.size_le HY.out.o2
                        have hle' := World.ownsMap.size_le HY.out.o1
                        obtain ⟨c1, hr1, t1⟩ := HY.out.o1.look_ok WHH.out
                        have hhas' : Maps.has D' (K h) = true := by rw [hD']; exact has_put_same HT.out.isMap (isKey _) _
                        have hc1 : c1 = at_ := by
                          rw [hD', atKey_put_same HT.out.isMap (isKey _)] at t1
                          unfold V at t1
                          simpa using t1.symm
                        subst hc1
                        have hr1' := hr1 0
                        rw [World.drewN_zero, hhas'] at hr1'
                        have HSZ : Hid ((Maps.size D' : Int) = (Maps.size D : Int) + 1) := hsz
                        have hsz2 : ((Maps.size D' : Int) != (Maps.size D : Int) + 1) = false := by simp [hsz]
                        have e1 := eq_some24
                        have e2 := eq_none24
                        have e3 := eq_some27
                        have e4 := eq_none27
                        clear hr1 t1 hhas' hsz hD' hhas
                        rcases (show (ao' = none ∧ a2 = none) ∨ (∃ x y, ao' = some x ∧ a2 = some y) from by
                          have := HC.out.1
                          cases ao' with
                          | none => cases a2 with
                            | none => exact Or.inl ⟨rfl, rfl⟩
                            | some y => cases this
                          | some x => cases a2 with
                            | none => cases this
                            | some y => exact Or.inr ⟨x, y, rfl, rfl⟩) with ⟨rfl, rfl⟩ | ⟨x, y, rfl, rfl⟩
                        · obtain ⟨rfl, rfl⟩ := HN.out rfl
                          go_wp2_with (first
                            | (at_len; refine wpList_len_own _ rfl (.tmp 237) 26 rfl 25 3 Yba.underlying26 _ w.heap.size N D' rfl HY.out.o1 ?_)
                            | (at_len; refine wpList_len_own _ rfl (.tmp 239) 26 rfl 25 3 Yba.underlying26 _ (w.heap.size + 1) j D rfl HY.out.o2 ?_))
                          go_meet
                          case rel => exact Below.refl _ _
                        · go_wp2_with (first
                            | (at_len; refine wpList_len_own _ rfl (.tmp 237) 26 rfl 25 3 Yba.underlying26 _ w.heap.size N D' rfl HY.out.o1 ?_)
                            | (at_len; refine wpList_len_own _ rfl (.tmp 239) 26 rfl 25 3 Yba.underlying26 _ (w.heap.size + 1) j D rfl HY.out.o2 ?_))
                          go_meet
                          case rel => exact Below.refl _ _
                      · obtain ⟨rfl, rfl, g, rfl, r1, r2⟩ := HYES.out hhas
                        have hle := World.ownsMap.size_le HY.out.o2
                        have i1 : (0 : Int) ≤ (nc : Int) := by omega
                        have i2 : (nc : Int) < (nc : Int) + 1 := by omega
                        clear hhas
                        go_wp2_with (first
                          | (at_len; refine wpList_len_own _ rfl (.tmp 200) 26 rfl 25 3 Yba.underlying26 _ w.heap.size N D' rfl HY.out.o1 ?_)
                          | (at_len; refine wpList_len_own _ rfl (.tmp 202) 26 rfl 25 3 Yba.underlying26 _ (w.heap.size + 1) j D' rfl HY.out.o2 ?_))
                        go_meet
                        case rel => exact (Below.refl _ _).alloc (Nat.le_refl _) _
                    case rest =>
                      obtain ⟨wz, rfl⟩ : ∃ wz : World, wz = wc := ⟨_, rfl⟩
                      have HZ : Hid (Below wy.heap.size wy wz) := hcut
                      clear hcut
                      have hn' : nc ≤ n' := by
                        cases e : Maps.has D (K h)
                        · obtain ⟨_, e1, _⟩ := HNO.out e; omega
                        · obtain ⟨_, e1, _⟩ := HYES.out e; omega
                      clear c0 c4 c5 c6 c7 c8 cl
                      go_wp2_with fail
                      go_loopg [279] nc (fun g i wv => ∃ m q : Nat, m + g = nc ∧ i = .int .i64 m ∧ wv = wz.drewN q)
                      case atStart => exact ⟨0, 0, by omega, rfl, rfl⟩
                      case round =>
                        obtain ⟨m, q, hm, rfl, rfl⟩ := hrel
                        have HM : Hid (m + gk = nc) := hm
                        clear hm
                        by_cases hlt : m < nc
                        · obtain ⟨b, off, rfl, q0, q1⟩ := H2.out m hlt
                          have hbl := World.block_lt_of_cell? w _ q0
                          have z1 : w.heap.size ≤ wy.heap.size := HY.out.bel.size
                          have s0 : wz.cell? ⟨b, off + m * 2, none⟩ = some (.int .u64 (rh m)) := (HZ.out.cell (p := ⟨b, off + m * 2, none⟩) (Nat.lt_of_lt_of_le hbl z1)).trans ((HY.out.bel.cell (p := ⟨b, off + m * 2, none⟩) hbl).trans q0)
                          have s1 : wz.cell? ⟨b, off + m * 2 + 1, none⟩ = some (.int .i64 (ra m)) := (HZ.out.cell (p := ⟨b, off + m * 2 + 1, none⟩) (Nat.lt_of_lt_of_le hbl z1)).trans ((HY.out.bel.cell (p := ⟨b, off + m * 2 + 1, none⟩) hbl).trans q1)
                          obtain ⟨x, rfl⟩ : ∃ x, ao' = some x := by
                            cases e : ao' with
                            | none => have := HY.out.nil_ e; omega
                            | some x => exact ⟨x, rfl⟩
                          obtain ⟨g, rfl, hr⟩ := HY.out.rows x rfl
                          have t0 : wz.cell? ⟨g, m * 2, none⟩ = some (.int .u64 (rh m)) := (HZ.out.cell (p := ⟨g, m * 2, none⟩) (World.block_lt_of_cell? wy _ (hr.one m hlt))).trans (hr.one m hlt)
                          have t1 : wz.cell? ⟨g, m * 2 + 1, none⟩ = some (.int .i64 (ra m)) := (HZ.out.cell (p := ⟨g, m * 2 + 1, none⟩) (World.block_lt_of_cell? wy _ (hr.two m hlt))).trans (hr.two m hlt)
                          have c7 : wz.cell? ⟨wx.heap.size + 1, 7, none⟩ = some (.slice (some ⟨g, 0, none⟩) n' cap') := (HZ.out.cell (p := ⟨wx.heap.size + 1, 7, none⟩) (World.block_lt_of_cell? wy _ HY.out.c7)).trans HY.out.c7
                          have i1 : (0 : Int) ≤ (m : Int) := by omega
                          have i2 : (m : Int) < (nc : Int) := by omega
                          have i3 : (m : Int) < (n' : Int) := by omega
                          clear q0 q1 hr
                          go_wp2_with fail
                          go_quiet (fail)
                          go_wp2
                          go_roundg (gk - 1)
                          case measure => have := HM.out; omega
                          case rel => exact ⟨m + 1, _, by have := HM.out; omega, by go_num, rfl⟩
                        · obtain rfl : m = nc := by have := HM.out; omega
                          go_wp2
                          go_ret
                          exact ⟨rfl, below_drewN (HY.out.bel.trans (HZ.out.mono HY.out.bel.size)) _⟩

end Go.Proofs.Ybulkdhdw
