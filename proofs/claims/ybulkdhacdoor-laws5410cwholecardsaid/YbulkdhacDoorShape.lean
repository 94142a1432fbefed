/-
  The arguments of the law, opened: 250 cells and 30 cells; the table of powers out of 'laid'.
-/
import Derived.Test.YbulkdhacDoorHeld
import Derived.Test.YbulkdhacDoorFigs
import Derived.Test.YbulkdhacDoorRows
import Derived.Lib.LaidTab
namespace Go.Proofs.YbulkdhacDoor
open Go.RowKit Floats

/-- the types of the 250 cells. -/
def t28 : List TypeId := 4 :: (List.replicate 57 22 ++ (List.replicate 64 [2, 22, 22]).flatten)
theorem ct28 : Ybad.prog.cellTypes Ybad.prog.depth 28 = some t28 := by kernel_rfl
theorem t28_len : t28.length = 250 := by decide +kernel
theorem t28_at : ∀ c, c < 250 → t28[c]? = some (if c = 0 then 4 else if c < 58 then 22 else if (c - 58) % 3 = 0 then 2 else 22) := by decide +kernel
/-- the types of the 30 cells. -/
def t33 : List TypeId := [3, 3, 3] ++ List.replicate 9 29 ++ List.replicate 9 5 ++ List.replicate 6 3 ++ [4, 4, 4]
theorem ct33 : Ybad.prog.cellTypes Ybad.prog.depth 33 = some t33 := by kernel_rfl
theorem t33_len : t33.length = 30 := by decide +kernel
theorem t33_at : ∀ c, c < 30 → t33[c]? = some (if c < 3 then 3 else if c < 12 then 29 else if c < 21 then 5 else if c < 27 then 3 else 4) := by decide +kernel
theorem size28 : Ybad.prog.cellsOf 28 = 250 := by kernel_rfl
theorem size33 : Ybad.prog.cellsOf 33 = 30 := by kernel_rfl

section
variable {P : Program} {w : World} {r : Reach} {base : Nat} {t : TypeId} {v : Value}
theorem cell_bool (ht : P.underlying t = some .bool) (h : Cell.okWide P w r base t v) : ∃ b, v = .bool b := by
  unfold Cell.okWide Cell.ok at h
  rw [ht] at h
  cases v <;> first | exact ⟨_, rfl⟩ | exact h.elim
theorem cell_int {k : IntKind} (ht : P.underlying t = some (.int k)) (h : Cell.okWide P w r base t v) : ∃ n, v = .int k n ∧ k.has n := by
  unfold Cell.okWide Cell.ok at h
  rw [ht] at h
  cases v <;> first | exact h.elim | (obtain ⟨rfl, h2⟩ := h; exact ⟨_, rfl, h2⟩)
theorem cell_float {k : FloatKind} (ht : P.underlying t = some (.float k)) (h : Cell.okWide P w r base t v) : ∃ n, v = .float k n := by
  unfold Cell.okWide Cell.ok at h
  rw [ht] at h
  cases v <;> first | exact h.elim | (obtain ⟨rfl, h2⟩ := h; exact ⟨_, rfl⟩)
end

def boolAt (cs : Array Value) (c : Nat) : Bool := match cs[c]? with | some (.bool b) => b | _ => false
def bitsAt (cs : Array Value) (c : Nat) : Nat := match cs[c]? with | some (.float _ x) => x | _ => 0
def intAt (cs : Array Value) (c : Nat) : Int := match cs[c]? with | some (.int _ n) => n | _ => 0

theorem open_yd {W : World} {base : Nat} {v : Value} (hv : Value.okWide Ybad.prog W .any base 28 v) : ∃ b0 F I, v = .agg (arr (yv b0 F I)) := by
  unfold Value.okWide at hv
  rw [Ybad.underlying28] at hv
  obtain ⟨cs, rfl, hs, ts, hts, _, hc⟩ := hv
  obtain rfl := Option.some.inj (ct28.symm.trans hts)
  rw [size28] at hs
  rw [t28_len] at hc
  refine ⟨boolAt cs 0, bitsAt cs, intAt cs, congrArg Value.agg (Array.ext_getElem? fun c => ?_)⟩
  by_cases h : c < 250
  · rw [arr_get _ _ h]
    have hg : cs[c]? = some cs[c] := Array.getElem?_eq_getElem (by omega)
    obtain ⟨u, hu, hk⟩ := hc c _ hg
    rw [Nat.mod_eq_of_lt h, t28_at c h] at hu
    obtain rfl := Option.some.inj hu
    rw [hg]
    unfold yv
    by_cases h0 : c = 0
    · subst h0
      rw [if_pos rfl] at hk ⊢
      obtain ⟨b, hb⟩ := cell_bool Ybad.underlying4 hk
      simp only [boolAt, hg]; rw [hb]
    · rw [if_neg h0] at hk ⊢
      by_cases h1 : c < 58
      · rw [if_pos h1] at hk ⊢
        obtain ⟨b, hb⟩ := cell_float Ybad.underlying22 hk
        simp only [bitsAt, hg]; rw [hb]
      · rw [if_neg h1] at hk ⊢
        by_cases h2 : (c - 58) % 3 = 0
        · rw [if_pos h2] at hk ⊢
          obtain ⟨b, hb, _⟩ := cell_int Ybad.underlying2 hk
          simp only [intAt, hg]; rw [hb]
        · rw [if_neg h2] at hk ⊢
          obtain ⟨b, hb⟩ := cell_float Ybad.underlying22 hk
          simp only [bitsAt, hg]; rw [hb]
  · rw [Array.getElem?_eq_none (by omega), Array.getElem?_eq_none (by unfold arr; simp; omega)]

/-- the event's thirty cells. -/
def evc (J : Nat → Int) (B : Nat → Bool) : Nat → Value := fun c => if c < 3 then .int .i64 (J c) else if c < 12 then .int .u64 (J c) else if c < 21 then .int .u8 (J c) else if c < 27 then .int .i64 (J c) else .bool (B c)
theorem open_ev {W : World} {base : Nat} {v : Value} (hv : Value.okWide Ybad.prog W .any base 33 v) : ∃ J B, v = .agg ((List.range 30).map (evc J B)).toArray ∧ ∀ c, 12 ≤ c → c < 21 → 0 ≤ J c ∧ J c ≤ 255 := by
  unfold Value.okWide at hv
  rw [Ybad.underlying33] at hv
  obtain ⟨cs, rfl, hs, ts, hts, _, hc⟩ := hv
  obtain rfl := Option.some.inj (ct33.symm.trans hts)
  rw [size33] at hs
  rw [t33_len] at hc
  refine ⟨intAt cs, boolAt cs, congrArg Value.agg (Array.ext_getElem? fun c => ?_), fun c h1 h2 => ?_⟩
  · by_cases h : c < 30
    · have hr : ((List.range 30).map (evc (intAt cs) (boolAt cs))).toArray[c]? = some (evc (intAt cs) (boolAt cs) c) := by simp [h]
      rw [hr]
      have hg : cs[c]? = some cs[c] := Array.getElem?_eq_getElem (by omega)
      obtain ⟨u, hu, hk⟩ := hc c _ hg
      rw [Nat.mod_eq_of_lt h, t33_at c h] at hu
      obtain rfl := Option.some.inj hu
      rw [hg]
      unfold evc
      by_cases h0 : c < 3
      · rw [if_pos h0] at hk ⊢
        obtain ⟨b, hb, _⟩ := cell_int Ybad.underlying3 hk
        simp only [intAt, hg]; rw [hb]
      · rw [if_neg h0] at hk ⊢
        by_cases h1 : c < 12
        · rw [if_pos h1] at hk ⊢
          obtain ⟨b, hb, _⟩ := cell_int Ybad.underlying29 hk
          simp only [intAt, hg]; rw [hb]
        · rw [if_neg h1] at hk ⊢
          by_cases h2 : c < 21
          · rw [if_pos h2] at hk ⊢
            obtain ⟨b, hb, _⟩ := cell_int Ybad.underlying5 hk
            simp only [intAt, hg]; rw [hb]
          · rw [if_neg h2] at hk ⊢
            by_cases h3 : c < 27
            · rw [if_pos h3] at hk ⊢
              obtain ⟨b, hb, _⟩ := cell_int Ybad.underlying3 hk
              simp only [intAt, hg]; rw [hb]
            · rw [if_neg h3] at hk ⊢
              obtain ⟨b, hb⟩ := cell_bool Ybad.underlying4 hk
              simp only [boolAt, hg]; rw [hb]
    · rw [Array.getElem?_eq_none (by omega), Array.getElem?_eq_none (by simp; omega)]
  · have hg : cs[c]? = some cs[c] := Array.getElem?_eq_getElem (by omega)
    obtain ⟨u, hu, hk⟩ := hc c _ hg
    rw [Nat.mod_eq_of_lt (by omega), t33_at c (by omega), if_neg (by omega), if_neg (by omega), if_pos h2] at hu
    obtain rfl := Option.some.inj hu
    obtain ⟨b, hb, hh⟩ := cell_int Ybad.underlying5 hk
    have : intAt cs c = b := by simp only [intAt, hg]; rw [hb]
    rw [this]
    exact ⟨hh.1, hh.2⟩

/-- the table. -/
def tens : List Int := [1, 10, 100, 1000, 10000, 100000, 1000000, 10000000, 100000000, 1000000000, 10000000000, 100000000000, 1000000000000, 10000000000000, 100000000000000, 1000000000000000, 10000000000000000, 100000000000000000, 1000000000000000000, 10000000000000000000]
theorem tens_at : ∀ j, j < 20 → tens.getD j 0 = p10 j := by decide +kernel
theorem gPow : Ybad.prog.globalNamed "example.com/pacewatch/pacewatch.pow10" = some 1 := by kernel_rfl
theorem gPowType : (Ybad.prog.globals[1]?).map (·.type) = some 66 := by kernel_rfl
theorem pc29 : Ybad.prog.cellsOf 29 = 1 := by kernel_rfl
theorem pc66 : Ybad.prog.cellsOf 66 = 20 := by kernel_rfl
theorem pow_of_laid {W : World} (h : laidMet Ybad.prog Rows.lawS5410CWholeRow.laid W) : Pow W := by
  have hT : Lib.TabIs Ybad.prog W "example.com/pacewatch/pacewatch.pow10" .u64 tens := Lib.tabIs_of_head gPow gPowType Ybad.underlying66 Ybad.underlying29 pc29 pc66 h
  have hc : ∀ j, j < 20 → W.cell? ⟨1, j, none⟩ = some (.int .u64 (p10 j)) := fun j hj => by
    rw [hT.cell gPow j hj, tens_at j hj]
  exact ⟨World.block_lt_of_cell? W _ (hc 0 (by omega)), hc⟩
end Go.Proofs.YbulkdhacDoor
