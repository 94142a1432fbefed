/-
  The arguments of the law, opened: texts, runs, inserted, deletes; the table out of 'laid'.
-/
import Derived.Test.YbulkdhcgDoorLaw
import Derived.Deep.Slices
import Derived.Deep.Strs
import Derived.SizedLaws
import Derived.Lib.LaidTab
namespace Go.Proofs.YbulkdhcgDoor
open Go.RowKit Go.ChangeShapes Go.WideShapes

theorem cells5 : Ybad.prog.cellsOf 5 = 1 := by kernel_rfl
theorem cells27 : Ybad.prog.cellsOf 27 = 1 := by kernel_rfl
theorem cells37 : Ybad.prog.cellsOf 37 = 1 := by kernel_rfl
theorem cells69 : Ybad.prog.cellsOf 69 = 1 := by kernel_rfl
theorem cells71 : Ybad.prog.cellsOf 71 = 3 := by kernel_rfl
theorem cells83 : Ybad.prog.cellsOf 83 = 3 := by kernel_rfl
theorem bytes5 : Ybad.prog.bytesOf 5 = 1 := by kernel_rfl
theorem bytes27 : Ybad.prog.bytesOf 27 = 24 := by kernel_rfl
theorem cells22 : Ybad.prog.cellsOf 22 = 1 := by kernel_rfl

section
variable {H : Type} {enc : TypeId × Value → H} {w : World} {base : Nat} {spare : Nat → Bool} {held : Bool} {fuel : Nat}

theorem list3 {α : Type} (l : List α) (h : l.length = 3) : ∃ a b c, l = [a, b, c] := by
  match l, h with
  | [a, b, c], _ => exact ⟨a, b, c, rfl⟩
theorem wf_u8 {n : Int} (h : (Lit.int .u8 n).wf = true) : ∃ m : Nat, n = m ∧ m < 256 := by
  have h2 : IntKind.u8.min ≤ n ∧ n ≤ IntKind.u8.max := by simpa [Lit.wf] using h
  have h3 : 0 ≤ n ∧ n ≤ 255 := h2
  exact ⟨n.toNat, by omega, by omega⟩
theorem wf_u16 {n : Int} (h : (Lit.int .u16 n).wf = true) : ∃ m : Nat, n = m ∧ m < 65536 := by
  have h2 : IntKind.u16.min ≤ n ∧ n ≤ IntKind.u16.max := by simpa [Lit.wf] using h
  have h3 : 0 ≤ n ∧ n ≤ 65535 := h2
  exact ⟨n.toNat, by omega, by omega⟩
theorem wf_u32 {n : Int} (h : (Lit.int .u32 n).wf = true) : ∃ m : Nat, n = m ∧ m < 4294967296 := by
  have h2 : IntKind.u32.min ≤ n ∧ n ≤ IntKind.u32.max := by simpa [Lit.wf] using h
  have h3 : 0 ≤ n ∧ n ≤ 4294967295 := h2
  exact ⟨n.toNat, by omega, by omega⟩
theorem wf_u64 {n : Int} (h : (Lit.int .u64 n).wf = true) : ∃ m : Nat, n = m ∧ m < 18446744073709551616 := by
  have h2 : IntKind.u64.min ≤ n ∧ n ≤ IntKind.u64.max := by simpa [Lit.wf] using h
  have h3 : 0 ≤ n ∧ n ≤ 18446744073709551615 := h2
  exact ⟨n.toNat, by omega, by omega⟩
/-- the datum's own word on the length. -/
def Long (d : DataW H) (len : Nat) : Prop := len = 0 ∨ ∃ els sp, d = .slice els sp ∧ els.length = len

theorem bytes_of {v : Value} {x : DataW H × List MemPlace} (h : DataW.trod enc Ybad.prog w base spare held fuel 27 [v] = some x) :
    ∃ (a : Option Addr) (l c : Nat) (f : Nat → Nat), v = .slice a l c ∧ (∀ j, j < l → ∃ b o, a = some ⟨b, o, none⟩ ∧ w.cell? ⟨b, o + j, none⟩ = some (.int .u8 ((f j : Nat) : Int)) ∧ f j < 256) ∧ Long x.1 l := by
  rcases Go.Deep.open_slice1 Ybad.underlying27 cells5 h with ⟨hcs, _⟩ | ⟨a, l, c, m, n, V, D, Pl, hcs, _, hl, _, hmm, hx, hy⟩
  · simp at hcs
    exact ⟨none, 0, 0, fun _ => 0, hcs, fun j hj => absurd hj (Nat.not_lt_zero _), Or.inl rfl⟩
  · simp at hcs
    have hlm : l ≤ m := by rw [hmm]; split <;> omega
    obtain ⟨f, hf⟩ := Go.Deep.choose_lt (α := Nat) (n := l) (p := fun i k => w.cell? (a.add i) = some (.int .u8 (k : Int)) ∧ k < 256) (fun i hi => by
      obtain ⟨g1, g2⟩ := hy i (by omega)
      obtain ⟨k, e1, _, hw⟩ := DataW.trod_int Ybad.underlying5 g2
      simp at e1
      obtain ⟨q, rfl, hq⟩ := wf_u8 hw
      exact ⟨q, by rw [g1, e1], hq⟩)
    refine ⟨some a, l, c, f, hcs, fun j hj => ?_, Or.inr ⟨_, _, by rw [hx], by simp⟩⟩
    obtain ⟨b, off, spot⟩ := a
    have h0 := (hf 0 (by omega)).1
    have hspot : spot = none := by simpa [Addr.add] using World.cell?_spot h0
    subst hspot
    obtain ⟨k1, k2⟩ := hf j hj
    rw [Addr.add_mid] at k1
    exact ⟨b, off, rfl, k1, k2⟩

theorem weightsAll_mem {P : Program} {e : TypeId} {d : DataW H} {n : Nat} (hn : n ∈ d.weights P e) : ∀ {l : List (DataW H)}, d ∈ l → n ∈ DataW.weightsAll P e l
  | x :: l, hd => by
    unfold DataW.weightsAll
    rcases List.mem_cons.1 hd with rfl | hd
    · exact List.mem_append.2 (Or.inl hn)
    · exact List.mem_append.2 (Or.inr (weightsAll_mem hn hd))

theorem texts_of {a0 : Option Addr} {len cap : Nat} {x : DataW H × List MemPlace} (h : DataW.trod enc Ybad.prog w base spare held fuel 22 [.slice a0 len cap] = some x) :
    ∃ (ta : Nat → Option Addr) (tl tc : Nat → Nat) (tz : Nat → Nat → Nat), (∀ i, i < len → ∃ b o, a0 = some ⟨b, o, none⟩ ∧ w.cell? ⟨b, o + i, none⟩ = some (.slice (ta i) (tl i) (tc i))) ∧
      (∀ i, i < len → ∀ j, j < tl i → ∃ b o, ta i = some ⟨b, o, none⟩ ∧ w.cell? ⟨b, o + j, none⟩ = some (.int .u8 ((tz i j : Nat) : Int)) ∧ tz i j < 256) ∧ Long x.1 len ∧
      ((x.1.weights Ybad.prog 22).all (· ≤ reachBytes) = true → ∀ i, i < len → tl i ≤ reachBytes) := by
  rcases Go.Deep.open_slice1 Ybad.underlying22 cells27 h with ⟨hcs, _⟩ | ⟨a, l, c, m, n, V, D, Pl, hcs, _, hl, _, hmm, hx, hy⟩
  · simp at hcs
    obtain ⟨rfl, rfl, rfl⟩ := hcs
    exact ⟨fun _ => none, fun _ => 0, fun _ => 0, fun _ _ => 0, fun i hi => absurd hi (Nat.not_lt_zero _), fun i hi => absurd hi (Nat.not_lt_zero _), Or.inl rfl, fun _ i hi => absurd hi (Nat.not_lt_zero _)⟩
  · simp at hcs
    obtain ⟨rfl, rfl, rfl⟩ := hcs
    have hlm : len ≤ m := by rw [hmm]; split <;> omega
    obtain ⟨f, hf⟩ := Go.Deep.choose_lt (α := Option Addr × Nat × Nat × (Nat → Nat)) (n := len) (p := fun i k => w.cell? (a.add i) = some (.slice k.1 k.2.1 k.2.2.1) ∧ (∀ j, j < k.2.1 → ∃ b o, k.1 = some ⟨b, o, none⟩ ∧ w.cell? ⟨b, o + j, none⟩ = some (.int .u8 ((k.2.2.2 j : Nat) : Int)) ∧ k.2.2.2 j < 256) ∧ Long (D i) k.2.1) (fun i hi => by
      obtain ⟨g1, g2⟩ := hy i (by omega)
      obtain ⟨ai, li, ci, fi, hv, hc, hL⟩ := bytes_of g2
      exact ⟨(ai, li, ci, fi), by rw [g1, hv], hc, hL⟩)
    refine ⟨fun i => (f i).1, fun i => (f i).2.1, fun i => (f i).2.2.1, fun i => (f i).2.2.2, fun i hi => ?_, fun i hi => (hf i hi).2.1, Or.inr ⟨_, _, by rw [hx], by simp⟩, fun hw i hi => ?_⟩
    · obtain ⟨b, off, spot⟩ := a
      have h0 := (hf 0 (by omega)).1
      have hspot : spot = none := by simpa [Addr.add] using World.cell?_spot h0
      subst hspot
      obtain ⟨k1, _⟩ := hf i hi
      rw [Addr.add_mid] at k1
      exact ⟨b, off, rfl, k1⟩
    · show (f i).2.1 ≤ reachBytes
      rcases (hf i hi).2.2 with e | ⟨els, sp, hd, hl2⟩
      · rw [e]; exact Nat.zero_le _
      · have hmem : (els.length + sp.length) * Ybad.prog.bytesOf 5 ∈ (D i).weights Ybad.prog 27 := by
          rw [hd]; simp [DataW.weights, Ybad.underlying27]
        have hin : D i ∈ (List.range len).map D := List.mem_map.2 ⟨i, List.mem_range.2 hi, rfl⟩
        have h3 := weightsAll_mem hmem hin
        have h4 : (els.length + sp.length) * Ybad.prog.bytesOf 5 ∈ x.1.weights Ybad.prog 22 := by
          rw [hx]
          simp only [DataW.weights, Ybad.underlying22]
          exact List.mem_cons_of_mem _ (List.mem_append.2 (Or.inl h3))
        have h5 := List.all_eq_true.1 hw _ h4
        rw [bytes5] at h5
        simp at h5
        omega

theorem u32s_of {a0 : Option Addr} {len cap : Nat} {x : DataW H × List MemPlace} (h : DataW.trod enc Ybad.prog w base spare held fuel 25 [.slice a0 len cap] = some x) :
    ∃ f : Nat → Nat, ∀ i, i < len → ∃ b o, a0 = some ⟨b, o, none⟩ ∧ w.cell? ⟨b, o + i, none⟩ = some (.int .u32 ((f i : Nat) : Int)) ∧ f i < 4294967296 := by
  rcases Go.Deep.open_slice1 Ybad.underlying25 cells37 h with ⟨hcs, _⟩ | ⟨a, l, c, m, n, V, D, Pl, hcs, _, hl, _, hmm, hx, hy⟩
  · simp at hcs
    obtain ⟨rfl, rfl, rfl⟩ := hcs
    exact ⟨fun _ => 0, fun i hi => absurd hi (Nat.not_lt_zero _)⟩
  · simp at hcs
    obtain ⟨rfl, rfl, rfl⟩ := hcs
    have hlm : len ≤ m := by rw [hmm]; split <;> omega
    obtain ⟨f, hf⟩ := Go.Deep.choose_lt (α := Nat) (n := len) (p := fun i k => w.cell? (a.add i) = some (.int .u32 (k : Int)) ∧ k < 4294967296) (fun i hi => by
      obtain ⟨g1, g2⟩ := hy i (by omega)
      obtain ⟨k, e1, _, hw⟩ := DataW.trod_int Ybad.underlying37 g2
      simp at e1
      obtain ⟨q, rfl, hq⟩ := wf_u32 hw
      exact ⟨q, by rw [g1, e1], hq⟩)
    refine ⟨f, fun j hj => ?_⟩
    obtain ⟨b, off, spot⟩ := a
    have h0 := (hf 0 (by omega)).1
    have hspot : spot = none := by simpa [Addr.add] using World.cell?_spot h0
    subst hspot
    obtain ⟨k1, k2⟩ := hf j hj
    rw [Addr.add_mid] at k1
    exact ⟨b, off, rfl, k1, k2⟩

theorem trios_of {t e : TypeId} {f0 f1 f2 : Field} (ht : Ybad.prog.underlying t = some (.slice e)) (he : Ybad.prog.underlying e = some (.struct #[f0, f1, f2])) (hc : Ybad.prog.cellsOf e = 3) (q0 : f0.type = 5 ∧ f0.offset = 0) (q1 : f1.type = 69 ∧ f1.offset = 1) (q2 : f2.type = 69 ∧ f2.offset = 2)
    {a0 : Option Addr} {len cap : Nat} {x : DataW H × List MemPlace} (h : DataW.trod enc Ybad.prog w base spare held fuel t [.slice a0 len cap] = some x) :
    ∃ fa fb fc : Nat → Nat, ∀ i, i < len → ∃ b o, a0 = some ⟨b, o, none⟩ ∧ w.cell? ⟨b, o + i * 3, none⟩ = some (.int .u8 ((fa i : Nat) : Int)) ∧ w.cell? ⟨b, o + i * 3 + 1, none⟩ = some (.int .u16 ((fb i : Nat) : Int)) ∧ w.cell? ⟨b, o + i * 3 + 2, none⟩ = some (.int .u16 ((fc i : Nat) : Int)) ∧ fa i < 256 ∧ fb i < 65536 ∧ fc i < 65536 := by
  rcases Go.Deep.open_slice ht h with ⟨hcs, _⟩ | ⟨a, l, c, m, n, D, Pl, hcs, _, hl, _, hmm, hx, hy⟩
  · simp at hcs
    obtain ⟨rfl, rfl, rfl⟩ := hcs
    exact ⟨fun _ => 0, fun _ => 0, fun _ => 0, fun i hi => absurd hi (Nat.not_lt_zero _)⟩
  · simp at hcs
    obtain ⟨rfl, rfl, rfl⟩ := hcs
    have hlm : len ≤ m := by rw [hmm]; split <;> omega
    rw [hc] at hy
    obtain ⟨f, hf⟩ := Go.Deep.choose_lt (α := Nat × Nat × Nat) (n := len) (p := fun i k => w.cell? (a.add (i * 3)) = some (.int .u8 ((k.1 : Nat) : Int)) ∧ w.cell? (a.add (i * 3 + 1)) = some (.int .u16 ((k.2.1 : Nat) : Int)) ∧ w.cell? (a.add (i * 3 + 2)) = some (.int .u16 ((k.2.2 : Nat) : Int)) ∧ k.1 < 256 ∧ k.2.1 < 65536 ∧ k.2.2 < 65536) (fun i hi => by
      obtain ⟨cs', g1, g2⟩ := hy i (by omega)
      obtain ⟨xs, n', _, _, hl', hlen, hfs⟩ := DataW.trod_struct he g2
      rw [hc] at hl'
      obtain ⟨v0, v1, v2, rfl⟩ := list3 cs' hl'
      have e0 := hfs 0 f0 rfl
      have e1 := hfs 1 f1 rfl
      have e2 := hfs 2 f2 rfl
      rw [q0.1, q0.2, cells5] at e0
      rw [q1.1, q1.2, cells69] at e1
      rw [q2.1, q2.2, cells69] at e2
      obtain ⟨y0, _, e0⟩ : ∃ y, xs[0]? = some y ∧ DataW.trod enc Ybad.prog w base spare held n' 5 ((([v0, v1, v2] : List Value).drop 0).take 1) = some y := by
        match xs, hlen with
        | [y0, y1, y2], _ => exact ⟨y0, rfl, by simpa using e0⟩
      obtain ⟨y1, _, e1⟩ : ∃ y, xs[1]? = some y ∧ DataW.trod enc Ybad.prog w base spare held n' 69 ((([v0, v1, v2] : List Value).drop 1).take 1) = some y := by
        match xs, hlen with
        | [y0, y1, y2], _ => exact ⟨y1, rfl, by simpa using e1⟩
      obtain ⟨y2, _, e2⟩ : ∃ y, xs[2]? = some y ∧ DataW.trod enc Ybad.prog w base spare held n' 69 ((([v0, v1, v2] : List Value).drop 2).take 1) = some y := by
        match xs, hlen with
        | [y0, y1, y2], _ => exact ⟨y2, rfl, by simpa using e2⟩
      obtain ⟨n0, z0, _, w0⟩ := DataW.trod_int Ybad.underlying5 e0
      obtain ⟨n1, z1, _, w1⟩ := DataW.trod_int Ybad.underlying69 e1
      obtain ⟨n2, z2, _, w2⟩ := DataW.trod_int Ybad.underlying69 e2
      simp at z0 z1 z2
      subst z0 z1 z2
      obtain ⟨m0, rfl, b0⟩ := wf_u8 w0
      obtain ⟨m1, rfl, b1⟩ := wf_u16 w1
      obtain ⟨m2, rfl, b2⟩ := wf_u16 w2
      obtain ⟨_, _, hcc⟩ := World.cells?_some g1
      refine ⟨(m0, m1, m2), ?_, ?_, ?_, b0, b1, b2⟩
      · have := hcc 0 (by omega)
        rw [Go.Deep.add_add] at this
        simpa using this
      · have := hcc 1 (by omega)
        rw [Go.Deep.add_add] at this
        simpa using this
      · have := hcc 2 (by omega)
        rw [Go.Deep.add_add] at this
        simpa using this)
    refine ⟨fun i => (f i).1, fun i => (f i).2.1, fun i => (f i).2.2, fun i hi => ?_⟩
    obtain ⟨b, off, spot⟩ := a
    have h0 := (hf 0 (by omega)).1
    have hspot : spot = none := by simpa [Addr.add] using World.cell?_spot h0
    subst hspot
    obtain ⟨k1, k2, k3, k4⟩ := hf i hi
    rw [Addr.add_mid] at k1 k2 k3
    exact ⟨b, off, rfl, k1, k2, k3, k4⟩
end

/-- the table. -/
theorem gTab : Ybad.prog.globalNamed "math/bits.deBruijn64tab" = some 0 := by kernel_rfl
def tabZ : List Int := Lib.deBruijn64tab.map fun (n : Nat) => (n : Int)
theorem tabZ_at : ∀ j, j < 64 → tabZ.getD j 0 = ((Lib.deBruijn64tab.getD j 0 : Nat) : Int) := by decide +kernel
theorem gTabType : (Ybad.prog.globals[0]?).map (·.type) = some 74 := by kernel_rfl
theorem cells74 : Ybad.prog.cellsOf 74 = 64 := by kernel_rfl
theorem tab_of_laid {W : World} (h : laidMet Ybad.prog Rows.lawS5414CWholeRow.laid W) : Tab W := by
  have hT : Lib.TabIs Ybad.prog W "math/bits.deBruijn64tab" .u8 tabZ := Lib.tabIs_of_head gTab gTabType Ybad.underlying74 Ybad.underlying5 cells5 cells74 h
  intro j hj
  rw [hT.cell gTab j hj, tabZ_at j hj]
end Go.Proofs.YbulkdhcgDoor
