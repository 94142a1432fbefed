/-
  FLOATS WITHOUT Go TEXT: when the result of an operation is a NaN; that archLog's answer is one number, or some NaN.
-/
import Derived.Laws.FloatArith
import Derived.Deep.Draws
import Derived.Laws.Externs
import Derived.Laws.BitsAllLaws
import GoSem.Extern.MathLog
namespace Go.Proofs.YbulkdhacDoor.Floats
open Go Ieee

/-- these bits are no NaN. -/
def Nn (x : Nat) : Prop := (double.read x).isNaN = false

theorem nn_word (neg : Bool) (r : Nat) (h : r ≤ double.infRung) : Nn (double.word neg r) := by
  have hs : double.infRung < double.signWeight := Format.infRung_lt _
  have e : (double.word neg r) % double.signWeight = r := by
    unfold Format.word
    split
    · rw [Nat.add_mod_left]; exact Nat.mod_eq_of_lt (by omega)
    · exact Nat.mod_eq_of_lt (by omega)
  unfold Nn Format.read
  simp only [e]
  split
  · rfl
  · split
    · rfl
    · split
      · rfl
      · omega
theorem nn_write (d : Datum) (h : d.isNaN = false) : Nn (double.write d) := by
  cases d with
  | number neg mag place =>
    show Nn (double.nearest neg mag place)
    unfold Format.nearest
    split
    · exact nn_word _ _ (Nat.zero_le _)
    · exact nn_word _ _ (Nat.min_le_right _ _)
  | infinity neg => exact nn_word _ _ (Nat.le_refl _)
  | nan neg t => cases h

theorem sum_nn {a b d : Datum} (h : a.sum b = some d) : d.isNaN = false := by
  cases a <;> cases b <;> simp only [Datum.sum] at h <;> first | (cases h; done) | (cases h; rfl) | (split at h <;> first | (cases h; done) | (cases h; rfl))
theorem product_nn {a b d : Datum} (h : a.product b = some d) : d.isNaN = false := by
  cases a <;> cases b <;> simp only [Datum.product] at h <;> first | (cases h; done) | (cases h; rfl) | (split at h <;> first | (cases h; done) | (cases h; rfl))
theorem quotient_nn {k : Nat} {a b d : Datum} (h : a.quotient k b = some d) : d.isNaN = false := by
  cases a <;> cases b <;> simp only [Datum.quotient] at h <;> first | (cases h; done) | (cases h; rfl) | (split at h <;> first | (cases h; done) | (cases h; rfl) | (split at h <;> first | (cases h; done) | (cases h; rfl)))

theorem map_nn {o : Option Datum} {r : Nat} (ho : ∀ d, o = some d → d.isNaN = false) (h : o.map double.write = some r) : Nn r := by
  cases o with
  | none => cases h
  | some d => cases h; exact nn_write d (ho d rfl)

/-- the result of an arithmetic operation, where there is one, is no NaN. -/
theorem bits_nn {op : BinOp} {x y r : Nat} (h : floatBits op .f64 x y = some r) : Nn r := by
  unfold floatBits at h
  split at h
  · exact map_nn (fun d hd => sum_nn hd) h
  · exact map_nn (fun d hd => sum_nn hd) h
  · exact map_nn (fun d hd => product_nn hd) h
  · exact map_nn (fun d hd => quotient_nn hd) h
  · cases h

theorem nan_of (x : Nat) (h : ¬ Nn x) : ∃ s t, double.read x = .nan s t := by
  unfold Nn at h
  cases e : double.read x with
  | number a b c => rw [e] at h; exact absurd rfl h
  | infinity a => rw [e] at h; exact absurd rfl h
  | nan s t => exact ⟨s, t, rfl⟩
/-- a NaN among the operands: no number comes of it. -/
theorem bits_left {op : BinOp} {x y : Nat} (h : ¬ Nn x) : floatBits op .f64 x y = none := by
  obtain ⟨s, t, e⟩ := nan_of x h
  have e' : FloatKind.f64.format.read x = .nan s t := e
  unfold floatBits
  split <;> simp [Format.add, Format.sub, Format.mul, Format.div, e', Datum.sum, Datum.product, Datum.quotient]
theorem bits_right {op : BinOp} {x y : Nat} (h : ¬ Nn y) : floatBits op .f64 x y = none := by
  obtain ⟨s, t, e⟩ := nan_of y h
  have e' : FloatKind.f64.format.read y = .nan s t := e
  unfold floatBits
  split
  · simp only [Format.add, e']; cases FloatKind.f64.format.read x <;> rfl
  · simp only [Format.sub, e', Datum.opposite]; cases FloatKind.f64.format.read x <;> rfl
  · simp only [Format.mul, e']; cases FloatKind.f64.format.read x <;> rfl
  · simp only [Format.div, e']; cases FloatKind.f64.format.read x <;> rfl
  · rfl

theorem order_self {x : Nat} (h : Nn x) : FloatKind.f64.format.order x x = some .eq := by
  unfold Nn at h
  show (double.read x).order (double.read x) = some .eq
  cases e : double.read x with
  | number a b c => simp [Datum.order]
  | infinity a => simp [Datum.order]
  | nan s t => rw [e] at h; cases h
theorem order_nan {x y : Nat} (h : ¬ Nn x) : FloatKind.f64.format.order x y = none := by
  obtain ⟨s, t, e⟩ := nan_of x h
  show (double.read x).order (double.read y) = none
  rw [e]; cases double.read y <;> rfl

/-! ### what a run of several operations gives: one number, or some NaN -/
/-- r is o's number; 'none': r is some NaN. -/
def Sim (o : Option Nat) (r : Nat) : Prop :=
  match o with
  | some v => r = v ∧ Nn v
  | none => ¬ Nn r
theorem sim_some {v : Nat} (h : Nn v) : Sim (some v) v := ⟨rfl, h⟩
def oop (op : BinOp) : Option Nat → Option Nat → Option Nat
  | some x, some y => floatBits op .f64 x y
  | _, _ => none
theorem sim_oop {op : BinOp} {o1 o2 : Option Nat} {a b : Nat} (h1 : Sim o1 a) (h2 : Sim o2 b) : oop op o1 o2 = floatBits op .f64 a b := by
  cases o1 with
  | none => exact (bits_left h1).symm
  | some x =>
    obtain ⟨rfl, _⟩ := h1
    cases o2 with
    | none => exact (bits_right h2).symm
    | some y => obtain ⟨rfl, _⟩ := h2; rfl

/-- the bits that the tape answers with are a NaN's. -/
theorem cut_nan (x y t : Nat) : ¬ Nn ((Question.nanBits .f64 x y).cut t) := by
  have hc : (Question.nanBits .f64 x y).cut t = (t % 2) * 2 ^ 63 + 0x7ff0000000000000 + 1 + (t / 2) % (2 ^ 52 - 1) := rfl
  rw [hc]
  have hs : double.signWeight = 9223372036854775808 := by decide
  have hi : double.infRung = 9218868437227405312 := by decide
  have hb : double.binade = 4503599627370496 := by decide
  have hm : ((t % 2) * 2 ^ 63 + 0x7ff0000000000000 + 1 + (t / 2) % (2 ^ 52 - 1)) % double.signWeight = 0x7ff0000000000000 + 1 + (t / 2) % (2 ^ 52 - 1) := by
    rw [hs]; omega
  have h1 : ¬ (0x7ff0000000000000 + 1 + (t / 2) % (2 ^ 52 - 1)) < double.binade := by rw [hb]; omega
  have h2 : ¬ (0x7ff0000000000000 + 1 + (t / 2) % (2 ^ 52 - 1)) < double.infRung := by rw [hi]; omega
  have h3 : ¬ (0x7ff0000000000000 + 1 + (t / 2) % (2 ^ 52 - 1)) = double.infRung := by rw [hi]; omega
  unfold Nn Format.read
  simp only [hm, if_neg h1, if_neg h2, if_neg h3]
  simp [Datum.isNaN]

def Four (op : BinOp) : Prop := op = .add ∨ op = .sub ∨ op = .mul ∨ op = .quo

theorem floatArith_run {op : BinOp} (hop : Four op) (x y : Nat) (P : Program) (w : World) :
    ∃ r n, (Op.floatArith op .f64 x y).run P w = .ok (.float .f64 r) (w.drewN n) ∧ Sim (floatBits op .f64 x y) r := by
  cases h : floatBits op .f64 x y with
  | some v =>
    refine ⟨v, 0, ?_, rfl, bits_nn h⟩
    rcases hop with rfl | rfl | rfl | rfl <;> simp only [floatBits] at h <;> simp [Op.floatArith, h, World.drewN_zero]
  | none =>
    refine ⟨(Question.nanBits .f64 x y).cut (w.tape w.drawn (.nanBits .f64 x y)), 1, ?_, cut_nan _ _ _⟩
    rcases hop with rfl | rfl | rfl | rfl <;> simp only [floatBits] at h <;> simp [Op.floatArith, h, Question.forced] <;> rfl

/-- a piece of a run: whatever the world: it moves the draws alone, its number is o's. -/
def RunsN (x : Sem Nat) (o : Option Nat) : Prop := ∀ (P : Program) (w : World), ∃ r n, x.run P w = .ok r (w.drewN n) ∧ Sim o r
def RunsV (x : Sem Value) (o : Option Nat) : Prop := ∀ (P : Program) (w : World), ∃ r n, x.run P w = .ok (.float .f64 r) (w.drewN n) ∧ Sim o r

theorem runs_arith {op : BinOp} (hop : Four op) {o1 o2 : Option Nat} {a b : Nat} (h1 : Sim o1 a) (h2 : Sim o2 b) : RunsN (Extern.MathAsm.arith op a b) (oop op o1 o2) := by
  intro P w
  obtain ⟨r, n, hr, hs⟩ := floatArith_run hop a b P w
  refine ⟨r, n, ?_, ?_⟩
  · simp [Extern.MathAsm.arith, hr]
  · rw [sim_oop h1 h2]; exact hs
theorem runs_add {o1 o2 : Option Nat} {a b : Nat} (h1 : Sim o1 a) (h2 : Sim o2 b) : RunsN (Extern.MathAsm.add a b) (oop .add o1 o2) := runs_arith (Or.inl rfl) h1 h2
theorem runs_sub {o1 o2 : Option Nat} {a b : Nat} (h1 : Sim o1 a) (h2 : Sim o2 b) : RunsN (Extern.MathAsm.sub a b) (oop .sub o1 o2) := runs_arith (Or.inr (Or.inl rfl)) h1 h2
theorem runs_mul {o1 o2 : Option Nat} {a b : Nat} (h1 : Sim o1 a) (h2 : Sim o2 b) : RunsN (Extern.MathAsm.mul a b) (oop .mul o1 o2) := runs_arith (Or.inr (Or.inr (Or.inl rfl))) h1 h2
theorem runs_div {o1 o2 : Option Nat} {a b : Nat} (h1 : Sim o1 a) (h2 : Sim o2 b) : RunsN (Extern.MathAsm.div a b) (oop .quo o1 o2) := runs_arith (Or.inr (Or.inr (Or.inr rfl))) h1 h2

theorem runs_bind {x : Sem Nat} {f : Nat → Sem Value} {o q : Option Nat} (hx : RunsN x o) (hf : ∀ r, Sim o r → RunsV (f r) q) : RunsV (x >>= f) q := by
  intro P w
  obtain ⟨r, n, hr, hs⟩ := hx P w
  obtain ⟨v, m, hv, hq⟩ := hf r hs P (w.drewN n)
  exact ⟨v, n + m, by simp [hr, hv], hq⟩
theorem runs_pure {o : Option Nat} {r : Nat} (h : Sim o r) : RunsV (pure (.float .f64 r)) o := fun P w => ⟨r, 0, by simp [World.drewN_zero], h⟩

theorem nn_of_lt {x : Nat} (h : x ≤ 9218868437227405312) : Nn x := by
  have := nn_word false x (by show x ≤ double.infRung; exact Nat.le_trans h (by decide))
  exact this

/-- archLog's answer: a number, or 'none': some NaN. -/
def logO (x : Nat) : Option Nat :=
  if x % 2 ^ 63 == 0 then some Extern.MathAsm.negInf
  else if x ≥ 2 ^ 63 then none
  else if x ≥ Extern.MathAsm.posInf then (if x = Extern.MathAsm.posInf then some x else none)
  else
    let c (n : Nat) : Option Nat := some n
    let f1 := c (x % 2 ^ 52 + Extern.MathAsm.half)
    let k := c (Extern.MathAsm.ofInt32 (Int.ofNat (x / 2 ^ 52) - 0x3FE))
    let one := c (if (!Extern.MathAsm.lt 0x3FE6A09E667F3BCD (x % 2 ^ 52 + Extern.MathAsm.half)) then Extern.MathAsm.one else 0)
    let k := oop .sub k one
    let f1 := oop .mul f1 (oop .add one (c Extern.MathAsm.one))
    let f := oop .sub f1 (c Extern.MathAsm.one)
    let s := oop .quo f (oop .add (c Extern.MathAsm.two) f)
    let s2 := oop .mul s s
    let s4 := oop .mul s2 s2
    let t1 := oop .mul s2 (oop .add (oop .mul (oop .add (oop .mul (oop .add (oop .mul (c 0x3FC2F112DF3E5244) s4) (c 0x3FC7466496CB03DE)) s4) (c 0x3FD2492494229359)) s4) (c 0x3FE5555555555593))
    let t2 := oop .mul s4 (oop .add (oop .mul (oop .add (oop .mul (c 0x3FC39A09D078C69F) s4) (c 0x3FCC71C51D8E78AF)) s4) (c 0x3FD999999997FA04))
    let r := oop .add t1 t2
    let hfsq := oop .mul (oop .mul (c Extern.MathAsm.half) f) f
    let inner := oop .add (oop .mul s (oop .add r hfsq)) (oop .mul (c 0x3DEA39EF35793C76) k)
    oop .sub (oop .mul k (c 0x3FE62E42FEE00000)) (oop .sub (oop .sub hfsq inner) f)

theorem sim_small {v : Nat} (h : v ≤ 9218868437227405312) : Sim (some v) v := sim_some (nn_of_lt h)

set_option maxRecDepth 10000 in
theorem archLog_runs (x : Nat) : RunsV (Extern.MathLog.archLog #[.float .f64 x]) (logO x) := by
  refine (show RunsV (@ite (Sem Value) _ _ _ _) (logO x) from ?_)
  unfold logO
  by_cases h1 : (x % 2 ^ 63 == 0) = true
  · rw [if_pos h1, if_pos h1]
    exact runs_pure (sim_some (by show (double.read _).isNaN = false; decide +kernel))
  rw [if_neg h1, if_neg h1]
  by_cases h2 : x ≥ 2 ^ 63
  · rw [if_pos h2, if_pos h2]
    exact runs_pure (show ¬ Nn Extern.MathAsm.nan by show ¬ (double.read _).isNaN = false; decide +kernel)
  rw [if_neg h2, if_neg h2]
  by_cases h3 : x ≥ Extern.MathAsm.posInf
  · rw [if_pos h3, if_pos h3]
    by_cases h4 : x = Extern.MathAsm.posInf
    · rw [if_pos h4]; subst h4
      exact runs_pure (sim_small (by decide))
    · rw [if_neg h4]
      refine runs_pure (show ¬ Nn x from ?_)
      have h5 : 9218868437227405312 < x := by
        have : Extern.MathAsm.posInf = 9218868437227405312 := by decide
        omega
      have hs : double.signWeight = 9223372036854775808 := by decide
      have hi : double.infRung = 9218868437227405312 := by decide
      have hb : double.binade = 4503599627370496 := by decide
      have hm : x % double.signWeight = x := by rw [hs]; omega
      have g1 : ¬ x < double.binade := by rw [hb]; omega
      have g2 : ¬ x < double.infRung := by rw [hi]; omega
      have g3 : ¬ x = double.infRung := by rw [hi]; omega
      unfold Nn Format.read
      simp only [hm, if_neg g1, if_neg g2, if_neg g3]
      simp [Datum.isNaN]
  rw [if_neg h3, if_neg h3]
  have sf : Sim (some (x % 2 ^ 52 + Extern.MathAsm.half)) (x % 2 ^ 52 + Extern.MathAsm.half) := sim_small (by
    have : Extern.MathAsm.half = 4602678819172646912 := by decide
    omega)
  have sk : Sim (some (Extern.MathAsm.ofInt32 (Int.ofNat (x / 2 ^ 52) - 0x3FE))) (Extern.MathAsm.ofInt32 (Int.ofNat (x / 2 ^ 52) - 0x3FE)) := sim_some (nn_write (.number _ _ 0) rfl)
  have so : Sim (some (if (!Extern.MathAsm.lt 0x3FE6A09E667F3BCD (x % 2 ^ 52 + Extern.MathAsm.half)) then Extern.MathAsm.one else 0)) (if (!Extern.MathAsm.lt 0x3FE6A09E667F3BCD (x % 2 ^ 52 + Extern.MathAsm.half)) then Extern.MathAsm.one else 0) := by
    refine sim_small ?_
    split <;> decide
  generalize x % 2 ^ 52 + Extern.MathAsm.half = g at *
  generalize Extern.MathAsm.ofInt32 (Int.ofNat (x / 2 ^ 52) - 0x3FE) = k0 at *
  dsimp only
  generalize (if (!Extern.MathAsm.lt 0x3FE6A09E667F3BCD g) = true then Extern.MathAsm.one else 0) = o1 at *
  have s1 : Sim (some Extern.MathAsm.one) Extern.MathAsm.one := sim_small (by decide)
  have s2 : Sim (some Extern.MathAsm.two) Extern.MathAsm.two := sim_small (by decide)
  have sh : Sim (some Extern.MathAsm.half) Extern.MathAsm.half := sim_small (by decide)
  have d0 : Sim (some 0x3FC2F112DF3E5244) 0x3FC2F112DF3E5244 := sim_small (by omega)
  have d1 : Sim (some 0x3FC7466496CB03DE) 0x3FC7466496CB03DE := sim_small (by omega)
  have d2 : Sim (some 0x3FD2492494229359) 0x3FD2492494229359 := sim_small (by omega)
  have d3 : Sim (some 0x3FE5555555555593) 0x3FE5555555555593 := sim_small (by omega)
  have d4 : Sim (some 0x3FC39A09D078C69F) 0x3FC39A09D078C69F := sim_small (by omega)
  have d5 : Sim (some 0x3FCC71C51D8E78AF) 0x3FCC71C51D8E78AF := sim_small (by omega)
  have d6 : Sim (some 0x3FD999999997FA04) 0x3FD999999997FA04 := sim_small (by omega)
  have d7 : Sim (some 0x3DEA39EF35793C76) 0x3DEA39EF35793C76 := sim_small (by omega)
  have d8 : Sim (some 0x3FE62E42FEE00000) 0x3FE62E42FEE00000 := sim_small (by omega)
  refine runs_bind (runs_sub sk so) fun k hk => ?_
  refine runs_bind (runs_add so s1) fun a ha => ?_
  refine runs_bind (runs_mul sf ha) fun f1 hf1 => ?_
  refine runs_bind (runs_sub hf1 s1) fun f hf => ?_
  refine runs_bind (runs_add s2 hf) fun b hb => ?_
  refine runs_bind (runs_div hf hb) fun s hs => ?_
  refine runs_bind (runs_mul hs hs) fun q2 hq2 => ?_
  refine runs_bind (runs_mul hq2 hq2) fun q4 hq4 => ?_
  refine runs_bind (runs_mul d0 hq4) fun c1 hc1 => ?_
  refine runs_bind (runs_add hc1 d1) fun c2 hc2 => ?_
  refine runs_bind (runs_mul hc2 hq4) fun c3 hc3 => ?_
  refine runs_bind (runs_add hc3 d2) fun c4 hc4 => ?_
  refine runs_bind (runs_mul hc4 hq4) fun c5 hc5 => ?_
  refine runs_bind (runs_add hc5 d3) fun c6 hc6 => ?_
  refine runs_bind (runs_mul hq2 hc6) fun t1 ht1 => ?_
  refine runs_bind (runs_mul d4 hq4) fun e1 he1 => ?_
  refine runs_bind (runs_add he1 d5) fun e2 he2 => ?_
  refine runs_bind (runs_mul he2 hq4) fun e3 he3 => ?_
  refine runs_bind (runs_add he3 d6) fun e4 he4 => ?_
  refine runs_bind (runs_mul hq4 he4) fun t2 ht2 => ?_
  refine runs_bind (runs_add ht1 ht2) fun r hr => ?_
  refine runs_bind (runs_mul sh hf) fun u1 hu1 => ?_
  refine runs_bind (runs_mul hu1 hf) fun hfsq hh => ?_
  refine runs_bind (runs_add hr hh) fun v1 hv1 => ?_
  refine runs_bind (runs_mul hs hv1) fun v2 hv2 => ?_
  refine runs_bind (runs_mul d7 hk) fun v3 hv3 => ?_
  refine runs_bind (runs_add hv2 hv3) fun inner hin => ?_
  refine runs_bind (runs_mul hk d8) fun y1 hy1 => ?_
  refine runs_bind (runs_sub hh hin) fun y2 hy2 => ?_
  refine runs_bind (runs_sub hy2 hf) fun y3 hy3 => ?_
  refine runs_bind (runs_sub hy1 hy3) fun z hz => ?_
  exact runs_pure hz

/-! ### the law's own sums and quotients -/
def one64 : Nat := 4607182418800017408

theorem add_one {a : Nat} (h : Nn a) : ∃ r, floatBits .add .f64 a one64 = some r ∧ Nn r := by
  have e1 : double.read one64 = .number false 4503599627370496 (-52) := by decide +kernel
  unfold Nn at h
  cases h' : floatBits .add .f64 a one64 with
  | some r => exact ⟨r, rfl, bits_nn h'⟩
  | none =>
    exfalso
    have h2 : ((double.read a).sum (double.read one64)).map double.write = none := h'
    rw [e1] at h2
    cases e : double.read a <;> rw [e] at h2 h <;> simp [Datum.sum, Datum.isNaN] at h2 h
theorem one_over {a : Nat} (h : Nn a) : ∃ r, floatBits .quo .f64 one64 a = some r ∧ Nn r := by
  have e1 : double.read one64 = .number false 4503599627370496 (-52) := by decide +kernel
  unfold Nn at h
  cases h' : floatBits .quo .f64 one64 a with
  | some r => exact ⟨r, rfl, bits_nn h'⟩
  | none =>
    exfalso
    have h2 : ((double.read one64).quotient (double.fractionBits + 2) (double.read a)).map double.write = none := h'
    rw [e1] at h2
    cases e : double.read a <;> rw [e] at h2 h <;> simp [Datum.quotient, Datum.isNaN] at h2 h
    split at h2 <;> simp at h2
/-- math.Abs: the sign's bit struck. -/
def absB (x : Nat) : Nat := x % 9223372036854775808
theorem abs_bits (x : Nat) : (bits .andNot .u64 (x : Int) 9223372036854775808).toNat = absB x := by
  have e : bits .andNot .u64 (x : Int) 9223372036854775808 = bits .andNot .u64 ((x % 18446744073709551616 : Nat) : Int) ((9223372036854775808 : Nat) : Int) := by
    have e1 : BitVec.ofInt 64 (x : Int) = BitVec.ofInt 64 ((x % 18446744073709551616 : Nat) : Int) := by
      rw [BitVec.ofInt_natCast, BitVec.ofInt_natCast]
      apply BitVec.eq_of_toNat_eq
      simp
    show IntKind.u64.wrap ((BitVec.ofInt 64 (x : Int) &&& ~~~BitVec.ofInt 64 (9223372036854775808 : Int)).toNat : Int) = IntKind.u64.wrap ((BitVec.ofInt 64 ((x % 18446744073709551616 : Nat) : Int) &&& ~~~BitVec.ofInt 64 ((9223372036854775808 : Nat) : Int)).toNat : Int)
    rw [e1]; rfl
  rw [e, u64_andNot_nat _ _ (Nat.mod_lt _ (by decide)) (by decide), Int.toNat_natCast, show 18446744073709551615 - 9223372036854775808 = 2 ^ 63 - 1 from rfl, Nat.and_two_pow_sub_one_eq_mod]
  unfold absB; omega
theorem nn_abs (x : Nat) : Nn (absB x) ↔ Nn x := by
  have hs : double.signWeight = 9223372036854775808 := by decide
  have e : absB x % double.signWeight = x % double.signWeight := by unfold absB; rw [hs]; omega
  unfold Nn Format.read
  simp only [e]
  generalize x % double.signWeight = r
  split
  · simp [Datum.isNaN]
  · split
    · simp [Datum.isNaN]
    · split <;> simp [Datum.isNaN]
theorem sim_abs {o : Option Nat} {a b : Nat} (h1 : Sim o a) (h2 : Sim o b) : ∃ q, Sim q (absB a) ∧ Sim q (absB b) := by
  cases o with
  | none => exact ⟨none, fun h => h1 ((nn_abs a).1 h), fun h => h2 ((nn_abs b).1 h)⟩
  | some v =>
    obtain ⟨rfl, hv⟩ := h1
    obtain ⟨rfl, _⟩ := h2
    exact ⟨some (absB _), ⟨rfl, (nn_abs _).2 hv⟩, rfl, (nn_abs _).2 hv⟩

/-- 10^n. -/
def p10 (n : Nat) : Int := (10 : Int) ^ n
theorem p10_succ (n : Nat) : p10 (n + 1) = p10 n * 10 := by unfold p10; rw [Int.pow_succ]
theorem p10_pos (n : Nat) : 1 ≤ p10 n := by
  induction n with
  | zero => decide
  | succ n ih => rw [p10_succ]; omega
theorem p10_mono (m n : Nat) (h : m ≤ n) : p10 m ≤ p10 n := by
  induction n with
  | zero => obtain rfl : m = 0 := by omega
            exact Int.le_refl _
  | succ n ih =>
    by_cases e : m = n + 1
    · subst e; exact Int.le_refl _
    · have := ih (by omega); have := p10_pos n; rw [p10_succ]; omega
theorem p10_le (n : Nat) (h : n ≤ 19) : p10 n ≤ 10000000000000000000 := by
  have := p10_mono n 19 h; rw [show p10 19 = 10000000000000000000 from by decide] at this; exact this

/-- is the float of 10^n a number that is not nought? -/
def okPow (n : Nat) : Bool := match double.read (floatOfInt .f64 (p10 n)) with | .number _ m _ => m != 0 | _ => false
theorem okPow_all : (List.range 20).all okPow = true := by decide +kernel
theorem quo_some (d : Int) (n : Nat) (h : n < 20) : ∃ r, floatBits .quo .f64 (floatOfInt .f64 d) (floatOfInt .f64 (p10 n)) = some r ∧ Nn r := by
  have ho : okPow n = true := List.all_eq_true.1 okPow_all n (List.mem_range.2 h)
  have hd : Nn (floatOfInt .f64 d) := nn_write (.number (d < 0) d.natAbs 0) rfl
  unfold okPow at ho
  unfold Nn at hd
  cases h' : floatBits .quo .f64 (floatOfInt .f64 d) (floatOfInt .f64 (p10 n)) with
  | some r => exact ⟨r, rfl, bits_nn h'⟩
  | none =>
    exfalso
    have h2 : ((double.read (floatOfInt .f64 d)).quotient (double.fractionBits + 2) (double.read (floatOfInt .f64 (p10 n)))).map double.write = none := h'
    cases e2 : double.read (floatOfInt .f64 (p10 n)) with
    | infinity a => rw [e2] at ho; cases ho
    | nan a b => rw [e2] at ho; cases ho
    | number s m k =>
      rw [e2] at ho h2
      have hm : ¬ m = 0 := by simpa using ho
      cases e : double.read (floatOfInt .f64 d) <;> rw [e] at h2 hd <;> simp [Datum.quotient, Datum.isNaN, hm] at h2 hd
theorem nn_ofInt (n : Int) : Nn (floatOfInt .f64 n) := nn_write (.number (n < 0) n.natAbs 0) rfl
end Go.Proofs.YbulkdhacDoor.Floats
