/-
  The law: its inputs as plain data; what the stages have in common.
-/
import Derived.Test.YbulkdhcgDoorPush
import Derived.Test.YbulkdhcgDoorTextAt
import Derived.Lib.AppendStr
import Derived.Room.AppendFits
import Derived.Laws.IdiomStrings
namespace Go.Proofs.YbulkdhcgDoor
open Go.RowKit

/-- the law's inputs. -/
structure Inp where
  (a0 : Option Addr) (n0 k0 : Nat) (ta : Nat → Option Addr) (tl tc : Nat → Nat) (tz : Nat → Nat → Nat)
  (a1 : Option Addr) (n1 k1 : Nat) (rA rN rL : Nat → Nat)
  (per lv : Nat)
  (a4 : Option Addr) (n4 k4 : Nat) (iz : Nat → Nat)
  (a5 : Option Addr) (n5 k5 : Nat) (dA dL dS : Nat → Nat)
/-- they lie in memory. -/
structure Inp.At (I : Inp) (w : World) : Prop where
  tab : Tab w
  t : ∀ i, i < I.n0 → ∃ b o, I.a0 = some ⟨b, o, none⟩ ∧ w.cell? ⟨b, o + i, none⟩ = some (.slice (I.ta i) (I.tl i) (I.tc i))
  tz : ∀ i, i < I.n0 → ∀ j, j < I.tl i → ∃ b o, I.ta i = some ⟨b, o, none⟩ ∧ w.cell? ⟨b, o + j, none⟩ = some (.int .u8 (I.tz i j : Nat)) ∧ I.tz i j < 256
  r : ∀ i, i < I.n1 → ∃ b o, I.a1 = some ⟨b, o, none⟩ ∧ w.cell? ⟨b, o + i * 3, none⟩ = some (.int .u8 (I.rA i : Nat)) ∧ w.cell? ⟨b, o + i * 3 + 1, none⟩ = some (.int .u16 (I.rN i : Nat)) ∧ w.cell? ⟨b, o + i * 3 + 2, none⟩ = some (.int .u16 (I.rL i : Nat)) ∧ I.rA i < 256 ∧ I.rN i < 65536 ∧ I.rL i < 65536
  z : ∀ i, i < I.n4 → ∃ b o, I.a4 = some ⟨b, o, none⟩ ∧ w.cell? ⟨b, o + i, none⟩ = some (.int .u32 (I.iz i : Nat)) ∧ I.iz i < 4294967296
  d : ∀ i, i < I.n5 → ∃ b o, I.a5 = some ⟨b, o, none⟩ ∧ w.cell? ⟨b, o + i * 3, none⟩ = some (.int .u8 (I.dA i : Nat)) ∧ w.cell? ⟨b, o + i * 3 + 1, none⟩ = some (.int .u16 (I.dL i : Nat)) ∧ w.cell? ⟨b, o + i * 3 + 2, none⟩ = some (.int .u16 (I.dS i : Nat)) ∧ I.dA i < 256 ∧ I.dL i < 65536 ∧ I.dS i < 65536
  per : I.per < 256
  lv : I.lv < 18446744073709551616
theorem Inp.At.below {I : Inp} {w W : World} (h : I.At w) (hb : Below w.heap.size w W) : I.At W := by
  have c : ∀ {p : Addr} {v : Value}, w.cell? p = some v → W.cell? p = some v := fun {p v} hc => (hb.cell (World.block_lt_of_cell? w p hc)).trans hc
  refine ⟨fun j hj => c (h.tab j hj), fun i hi => ?_, fun i hi j hj => ?_, fun i hi => ?_, fun i hi => ?_, fun i hi => ?_, h.per, h.lv⟩
  · obtain ⟨b, o, e, h1⟩ := h.t i hi; exact ⟨b, o, e, c h1⟩
  · obtain ⟨b, o, e, h1, h2⟩ := h.tz i hi j hj; exact ⟨b, o, e, c h1, h2⟩
  · obtain ⟨b, o, e, h1, h2, h3, h4⟩ := h.r i hi; exact ⟨b, o, e, c h1, c h2, c h3, h4⟩
  · obtain ⟨b, o, e, h1, h2⟩ := h.z i hi; exact ⟨b, o, e, c h1, h2⟩
  · obtain ⟨b, o, e, h1, h2, h3, h4⟩ := h.d i hi; exact ⟨b, o, e, c h1, c h2, c h3, h4⟩
/-- they are small. -/
structure Inp.Sm (I : Inp) : Prop where
  n0 : I.n0 ≤ 64
  n1 : I.n1 ≤ 1024
  n5 : I.n5 ≤ 4096
  tl : ∀ i, i < I.n0 → I.tl i ≤ 4096
def Inp.nA (I : Inp) : Nat := if I.n0 = 0 then 1 else I.n0
theorem Inp.nA_pos (I : Inp) : 1 ≤ I.nA := by unfold Inp.nA; split <;> omega
theorem Inp.nA_le {I : Inp} (h : I.Sm) : I.nA ≤ 64 := by have := h.n0; unfold Inp.nA; split <;> omega
/-- the characters of actor a. -/
def Inp.cs (I : Inp) (a : Nat) : List (List UInt8) := if a < I.n0 ∧ 0 < I.tl a then (List.range (I.tl a)).map (fun j => ch (I.tz a j)) else [[120]]
def Inp.tot (I : Inp) (a : Nat) : Nat := (I.cs a).length
theorem Inp.tot_pos (I : Inp) (a : Nat) : 1 ≤ I.tot a := by
  unfold Inp.tot Inp.cs; split
  · rename_i h; simp; omega
  · simp
theorem Inp.tot_le {I : Inp} (h : I.Sm) (a : Nat) : I.tot a ≤ 4096 := by
  unfold Inp.tot Inp.cs; split
  · rename_i h2; have := h.tl a h2.1; simpa using this
  · simp
/-- the runs. -/
def Inp.ra (I : Inp) (i : Nat) : Nat := I.rA i % I.nA
def Inp.rn (I : Inp) (i : Nat) : Nat := I.rN i % I.tot (I.ra i)
def Inp.rl (I : Inp) (i : Nat) : Nat := 1 + I.rL i % (I.tot (I.ra i) - I.rn i)
theorem Inp.ra_lt (I : Inp) (i : Nat) : I.ra i < I.nA := Nat.mod_lt _ I.nA_pos
theorem Inp.rn_lt (I : Inp) (i : Nat) : I.rn i < I.tot (I.ra i) := Nat.mod_lt _ (I.tot_pos _)
theorem Inp.rl_le (I : Inp) (i : Nat) : I.rn i + I.rl i ≤ I.tot (I.ra i) := by
  have h1 := I.rn_lt i
  have h2 := Nat.mod_lt (I.rL i) (y := I.tot (I.ra i) - I.rn i) (by omega)
  unfold Inp.rl; omega
def Inp.ins (I : Inp) (a : Nat) : Nat := if a < I.n4 then I.iz a else 4294967295
/-- the counts deleted of a, behind the first i of the deletes. -/
def Inp.D (I : Inp) : Nat → Nat → Nat → Bool
  | 0, _, _ => false
  | i + 1, a, y => if a = I.dA i % I.nA then addT (I.D i a) (I.dL i) (I.dL i + I.dS i % 80) y else I.D i a y

/-- the cells of bytes. -/
def bcs (l : List UInt8) : List Value := l.map fun b => .int .u8 (b.toNat : Int)
theorem strCells_st (l : List UInt8) : Lib.strCells (st l) = bcs l := by
  unfold Lib.strCells st bcs; simp
theorem conv_own {w : World} {C n : Nat} {v : Value} {l : List UInt8} (h : w.ownsRow C 5 1 v n (bcs l)) (W : World) (hk : ∀ g, v.ownBlock = some g → W.heap[g]? = w.heap[g]?) : (convert 27 9 v).run Ybad.prog W = .ok (.string (st l)) W := by
  have hl : l.length = n := by have := h.1; unfold bcs at this; simpa using this
  rcases h.2 with ⟨rfl, rfl⟩ | ⟨g, cap, cur, rfl, _, hg, _⟩
  · have : l = [] := List.eq_nil_of_length_eq_zero hl
    subst this
    have := run_convert_bytes_string (P := Ybad.prog) W 27 9 5 none 0 0 Ybad.underlying27 Ybad.underlying5 Ybad.underlying9
    rw [this]; rfl
  · subst hl
    refine run_convert_bytes_back (P := Ybad.prog) W 27 9 5 ⟨g, 0, none⟩ cap l Ybad.underlying27 Ybad.underlying5 Ybad.underlying9 (fun j hj => ?_)
    have h1 := h.cells (g := g) rfl j (.int .u8 (l[j].toNat : Int)) (by unfold bcs; simp [hj])
    rw [Addr.add_mid] at h1 ⊢
    exact (World.cell?_of_block (w := w) (hk g rfl)).trans h1

/-- what the law is to leave. -/
def lawPost (w0 : World) : Ending → World → Prop := fun e w' => e = .returned (.bool true) ∧ Below w0.heap.size w0 w'
theorem use_hyp {K : Act → World → Prop} {a : Act} {w : World} {P : Program} {c : Code} {Q : Exit → Act → World → Prop} (h : ∀ a w, Code.wp P c Q a w → K a w) (hc : Code.wp P c Q a w) : K a w := h a w hc
end Go.Proofs.YbulkdhcgDoor
