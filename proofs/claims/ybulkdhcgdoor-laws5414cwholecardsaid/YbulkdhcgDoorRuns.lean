/-
  The iterator 'runs'; tree.at.
-/
import Derived.Test.YbulkdhcgDoorPiecesW
import Derived.Test.YbulkdhcgDoorBits2
import Derived.Test.YbulkdhcgDoorRound
namespace Go.Proofs.YbulkdhcgDoor
open Go.RowKit
attribute [local go_sem] Oper.semAt_some wide_fn wide_depth wide_fn_in wide_depth_in

/-- the leaves, as plain data: nL of them, leaf j (from 1 on) with cnt j runs. -/
structure Lv where
  (nL : Nat) (cnt : Nat → Nat) (rn : Nat → Nat → Nat)
/-- block bL holds them, a leaf 261 cells. -/
structure LvAt (w : World) (bL nl : Nat) (v : Lv) : Prop where
  len : v.nL < nl
  small : nl ≤ 1048576
  c64 : ∀ j, v.cnt j ≤ 64
  num : ∀ j, 1 ≤ j → j ≤ v.nL → w.cell? ⟨bL, j * 261 + 65, none⟩ = some (.int .i32 (v.cnt j : Nat))
  live : ∀ j, 1 ≤ j → j ≤ v.nL → ∃ z : Int, w.cell? ⟨bL, j * 261 + 64, none⟩ = some (.int .u64 z)
  run : ∀ j, 1 ≤ j → j ≤ v.nL → ∀ i, i < v.cnt j → w.cell? ⟨bL, j * 261 + i, none⟩ = some (.int .u32 (v.rn j i : Nat))
  next : ∀ j, 1 ≤ j → j ≤ v.nL → w.cell? ⟨bL, j * 261 + 68, none⟩ = some (.int .u32 ((if j < v.nL then j + 1 else 0 : Nat) : Int))
theorem LvAt.kept {K : Nat → Obj → Prop} {w W : World} {bL nl : Nat} {v : Lv} (h : LvAt w bL nl v) (hk : Kept K w W) (h1 : KAt K w bL) : LvAt W bL nl v :=
  ⟨h.len, h.small, h.c64, fun j a b => hk.cell h1 (h.num j a b), fun j a b => by obtain ⟨z, hz⟩ := h.live j a b; exact ⟨z, hk.cell h1 hz⟩, fun j a b i hi => hk.cell h1 (h.run j a b i hi), fun j a b => hk.cell h1 (h.next j a b)⟩

/-- the runs from leaf j on. -/
def Lv.all (v : Lv) : Nat → Nat → List Nat
  | 0, _ => []
  | d + 1, j => (List.range' 0 (v.cnt j)).map (v.rn j) ++ v.all d (j + 1)
/-- the runs from the i-th of leaf j on. -/
def Lv.rest (v : Lv) (j i : Nat) : List Nat := (List.range' i (v.cnt j - i)).map (v.rn j) ++ v.all (v.nL - j) (j + 1)
theorem Lv.rest_zero (v : Lv) {j : Nat} (h : j ≤ v.nL) : v.all (v.nL + 1 - j) j = v.rest j 0 := by
  have e : v.nL + 1 - j = (v.nL - j) + 1 := by omega
  rw [e]; rfl
theorem Lv.rest_step (v : Lv) {j i : Nat} (h : i < v.cnt j) : v.rest j i = v.rn j i :: v.rest j (i + 1) := by
  unfold Lv.rest
  have e : v.cnt j - i = (v.cnt j - (i + 1)) + 1 := by omega
  rw [e, List.range'_succ]
  rfl
theorem Lv.rest_end (v : Lv) (j : Nat) : v.rest j (v.cnt j) = v.all (v.nL - j) (j + 1) := by
  unfold Lv.rest
  rw [Nat.sub_self]; rfl

/-- how many leaves are left. -/
def rm (nL : Nat) : Value → Nat
  | .int _ z => if z = 0 then 0 else nL + 1 - z.toNat
  | _ => 0
def renc (x : Nat) : Array Value := #[.int .u32 (x : Nat)]

theorem and_4095 (x : Nat) (hx : x < 4096) : bits .and .i64 (x : Int) 4095 = (x : Int) := by
  have h1 : (BitVec.ofInt 64 (x : Int)).toNat = x := by
    rw [BitVec.ofInt_natCast, BitVec.toNat_ofNat]; exact Nat.mod_eq_of_lt (by omega)
  have h2 : (BitVec.ofInt 64 (4095 : Int)).toNat = 4095 := by decide
  show IntKind.i64.wrap ((BitVec.ofInt 64 (x : Int) &&& BitVec.ofInt 64 4095).toNat : Int) = _
  rw [BitVec.toNat_and, h1, h2]
  have h3 : x &&& 4095 = x := by
    have := Nat.and_two_pow_sub_one_eq_mod x 12
    rw [show 2 ^ 12 - 1 = 4095 by decide] at this
    rw [this]; exact Nat.mod_eq_of_lt (by omega)
  rw [h3]
  exact wi64 _ (by omega)
theorem at_any (bt bc b0 c0 n cap x : Nat) (w : World) (c1 : w.cell? ⟨bt, 0, none⟩ = some (.slice (some ⟨bc, 0, none⟩) 1 c0)) (c2 : w.cell? ⟨bc, 0, none⟩ = some (.slice (some ⟨b0, 0, none⟩) n cap)) (hx : x < n) (hn : n ≤ 4096) :
    Calls Ybad.prog 15 #[.pointer (some ⟨bt, 0, none⟩), .int .u32 x] w fun e w' => e = .returned (.pointer (some ⟨b0, x * 18, none⟩)) ∧ w' = w := by
  have e1 : (x : Int) / 4096 = 0 := by omega
  have e2 := and_4095 x (by omega)
  go_enter Ybad.func15, Ybad.ntmps15
  go_wp2
  go_ret
  exact ⟨rfl, rfl⟩

/-- what the closure of 'runs' has captured. -/
structure CaptR (W : World) (b1 b2 bt ot : Nat) : Prop where
  c1 : W.cell? ⟨b1, 0, none⟩ = some (.pointer (some ⟨bt, ot, none⟩))
  c2 : W.cell? ⟨b2, 0, none⟩ = some (.bool true)
theorem CaptR.kept {K : Nat → Obj → Prop} {w W : World} {b1 b2 bt ot : Nat} (h : CaptR w b1 b2 bt ot) (hk : Kept K w W) (h1 : KAt K w b1) (h2 : KAt K w b2) : CaptR W b1 b2 bt ot :=
  ⟨hk.cell h1 h.c1, hk.cell h2 h.c2⟩

set_option maxRecDepth 100000 in
set_option maxHeartbeats 4000000 in
theorem runs_iter (bt ot bL nl capL b1 b2 : Nat) (v : Lv) (K : Nat → Obj → Prop) (W : World) (hTab : Tab W) (hC : CaptR W b1 b2 bt ot) (hcL : W.cell? ⟨bt, ot, none⟩ = some (.slice (some ⟨bL, 0, none⟩) nl capL)) (hv : LvAt W bL nl v) (hn : 1 ≤ v.nL)
    (k0 : KAt K W 0) (k1 : KAt K W b1) (k2 : KAt K W b2) (k3 : KAt K W bt) (k4 : KAt K W bL) (l B : Nat) :
    SeqG Ybad.prog 19 #[.pointer (some ⟨b1, 0, none⟩), .pointer (some ⟨b2, 0, none⟩)] renc K (v.all v.nL 1) l B W := by
  intro J hJ hY h0
  have HTab : Hid (Tab W) := hTab
  have HC : Hid (CaptR W b1 b2 bt ot) := hC
  have HcL : Hid (W.cell? ⟨bt, ot, none⟩ = some (.slice (some ⟨bL, 0, none⟩) nl capL)) := hcL
  have HV : Hid (LvAt W bL nl v) := hv
  have HJ : Hid (OwnFrom B J) := hJ
  have H00 : Hid (J [] W) := h0
  have HY : Hid (∀ pre x V, J pre V → (pre ++ [x]) <+: v.all v.nL 1 → YieldAt Fence.wide 0 Ybad.prog l (renc x) V fun e V' => e = .returned (.bool true) ∧ J (pre ++ [x]) V' ∧ Kept K V V' ∧ KeepsFrom B V V') := hY
  have hlen := hv.len
  have hsm := hv.small
  clear hTab hC hcL hv hJ h0 hY
  refine callsIn_wide.2 ?_
  go_enter Ybad.func19, Ybad.ntmps19
  go_wp2
  go_loopw [4] (fun a wr => ∃ (pre : List Nat), J pre wr ∧ Kept K W wr ∧ ((∃ j : Nat, a = .int .u32 j ∧ 1 ≤ j ∧ j ≤ v.nL ∧ v.all v.nL 1 = pre ++ v.all (v.nL + 1 - j) j) ∨ (a = .int .u32 0 ∧ pre = v.all v.nL 1)))
    (fun a _ => rm v.nL a)
  case atStart => exact ⟨[], H00.out, Kept.refl _ _, Or.inl ⟨1, rfl, Nat.le_refl _, hn, by simp⟩⟩
  case round =>
    obtain ⟨pre, hj, hk, ⟨j, rfl, h1, h2, hpr⟩ | ⟨rfl, rfl⟩⟩ := hrel
    · have HJp : Hid (J pre wr) := hj
      have HKp : Hid (Kept K W wr) := hk
      have HPR : Hid (v.all v.nL 1 = pre ++ v.rest j 0) := by rw [← v.rest_zero h2]; exact hpr
      have hC := HC.out.kept hk k1 k2
      have c1 := hC.c1
      have c2 := hC.c2
      have c3 := hk.cell k3 HcL.out
      have hVw := HV.out.kept hk k4
      have d1 := hVw.num j h1 h2
      obtain ⟨z, d2⟩ := hVw.live j h1 h2
      have hc64 := hVw.c64 j
      have hjne : ((j : Int) == 0) = false := by rw [beq_eq_false_iff_ne]; omega
      have hjn2 : ((j : Int) != 0) = true := by rw [bne, hjne]; rfl
      have hji : (j : Int) < (nl : Int) := by omega
      obtain ⟨c, hc⟩ : ∃ c, c = v.cnt j := ⟨_, rfl⟩
      rw [← hc] at d1 hc64
      have HCc : Hid (c = v.cnt j) := hc
      clear hj hk hpr hC hVw hc
      go_wp2
      have htk : Hid (18446744073709551615 / 2 ^ (64 - c) = tk c 0) := max_shift hc64
      go_loopw [6] (fun a wr2 => ∃ (pre : List Nat) (i : Nat), a = .int .u64 (tk c i : Nat) ∧ i ≤ c ∧ J pre wr2 ∧ Kept K W wr2 ∧ v.all v.nL 1 = pre ++ v.rest j i) (fun a _ => (intOf a).toNat)
      case atStart =>
        refine ⟨pre, 0, ?_, Nat.zero_le _, HJp.out, HKp.out, HPR.out⟩
        rw [← htk.out]; simp
      case round =>
        clear HJp HKp HPR c1 c2 c3 d1 d2 hjne
        obtain ⟨pre2, i, rfl, hi, hj, hk, hpr⟩ := hrel
        have HJp : Hid (J pre2 wr) := hj
        have HKp : Hid (Kept K W wr) := hk
        have HPR : Hid (v.all v.nL 1 = pre2 ++ v.rest j i) := hpr
        have hC := HC.out.kept hk k1 k2
        have c1 := hC.c1
        have c3 := hk.cell k3 HcL.out
        have hVw := HV.out.kept hk k4
        clear hj hk hpr hC
        by_cases hic : i < c
        · have d3 := hVw.run j h1 h2 i (by rw [← HCc.out]; exact hic)
          have HTw : Hid (Tab wr) := fun q hq => HKp.out.cell k0 (HTab.out q hq)
          obtain ⟨x, hx⟩ : ∃ x, x = v.rn j i := ⟨_, rfl⟩
          rw [← hx] at d3
          have HX : Hid (v.rest j i = x :: v.rest j (i + 1)) := by rw [hx]; exact v.rest_step (by rw [← HCc.out]; exact hic)
          obtain ⟨fn, tmps, assign, body, hyr, hR⟩ := HY.out pre2 x wr.drew (own_drew HJ.out HJp.out) (by rw [HPR.out, HX.out]; exact ⟨_, by rw [List.append_assoc]; rfl⟩)
          dsimp only [renc] at hyr
          have htz := tz_any (tk c i) (tk_lt hc64) wr.drew (fun q hq => HTw.out q hq)
          rw [tk_ctz hic hc64] at htz
          have hne : (((tk c i : Nat) : Int) == 0) = false := by rw [beq_eq_false_iff_ne]; have := tk_ne hic; omega
          have hi64 : (i : Int) < 64 := by omega
          have hi0 : (0 : Int) ≤ (i : Int) := by omega
          have hand : bits BinOp.and IntKind.u64 ((tk c i : Nat) : Int) (((tk c i : Nat) : Int) - 1) = ((tk c (i + 1) : Nat) : Int) := by
            have h1 := tk_ne hic
            have h2 := tk_lt (i := i) hc64
            have e : ((tk c i : Nat) : Int) - 1 = ((tk c i - 1 : Nat) : Int) := by omega
            rw [e, bits_and_u64_nat _ _ h2 (by omega), tk_step hic]
          have htl : ((tk c i : Nat) : Int) < 18446744073709551616 := by have := tk_lt (i := i) hc64; omega
          have htp : (0 : Int) < ((tk c i : Nat) : Int) := by have := tk_ne hic; omega
          obtain ⟨T, hT⟩ : ∃ T, T = tk c i := ⟨_, rfl⟩
          obtain ⟨T2, hT2⟩ : ∃ T2, T2 = tk c (i + 1) := ⟨_, rfl⟩
          rw [← hT] at htz hne hand htl htp ⊢
          rw [← hT2] at hand
          have HT2 : Hid (T2 = tk c (i + 1)) := hT2
          have HT1 : Hid (T = tk c i) := hT
          have HAND : Hid (bits BinOp.and IntKind.u64 (T : Int) ((T : Int) - 1) = (T2 : Int)) := hand
          have HTL : Hid ((0 : Int) < (T : Int) ∧ (T : Int) < 18446744073709551616) := ⟨htp, htl⟩
          have HTZ : Hid (Calls Ybad.prog 18 #[.int .u64 T] wr.drew fun e w' => e = .returned (.int .i64 (i : Nat)) ∧ w' = wr.drew) := htz
          clear hx hVw hT hT2 hand htl htp htz
          go_wp2
          refine (wpIn_wide (n := 0)).1 ?_
          gi_region_with (first
            | (gi_at_call 18; refine (callsIn_wide.2 HTZ.out).mono ?_; rintro e w' ⟨rfl, hw⟩; obtain rfl := hw.symm)
            | (refine hR.mono ?_; rintro e W3 ⟨rfl, hj3, hk3, hf3⟩))
          have HJ3 : Hid (J (pre2 ++ [x]) W3) := hj3
          have HK3 : Hid (Kept K W W3) := (HKp.out.drew).trans hk3
          clear hj3 hk3 hf3 hyr hR HTZ
          have hand := HAND.out
          go_wp2
          have hwt : IntKind.u64.wrap ((T : Int) - 1) = (T : Int) - 1 := by rw [IntKind.wrap_u64]; have := HTL.out; omega
          refine ⟨?rel, ?measure⟩
          case rel =>
            refine ⟨pre2 ++ [x], i + 1, ?_, by omega, HJ3.out, HK3.out, ?_⟩
            · rw [hwt, hand, HT2.out]
            · rw [HPR.out, HX.out, List.append_assoc]; rfl
          case measure =>
            rw [hwt, hand]
            show ((T2 : Int)).toNat < ((T : Int)).toNat
            rw [Int.toNat_natCast, Int.toNat_natCast, HT1.out, HT2.out]
            unfold tk
            have p1 := Nat.pow_lt_pow_right (a := 2) (by omega) hic
            have p2 := Nat.pow_lt_pow_right (a := 2) (by omega) (show i < i + 1 by omega)
            omega
        · obtain rfl : i = c := by omega
          have d4 := hVw.next j h1 h2
          have e0 : ((tk i i : Nat) : Int) = 0 := by rw [tk_self]; rfl
          rw [e0]
          clear hVw
          obtain ⟨nx, hnx⟩ : ∃ nx : Nat, nx = if j < v.nL then j + 1 else 0 := ⟨_, rfl⟩
          rw [← hnx] at d4
          have HNX : Hid (nx = if j < v.nL then j + 1 else 0) := hnx
          clear hnx
          go_wp2
          have hall : v.all v.nL 1 = pre2 ++ v.all (v.nL - j) (j + 1) := by rw [HPR.out, HCc.out, v.rest_end]
          have hnx := HNX.out
          go_roundw
          case rel =>
            refine ⟨pre2, HJp.out, HKp.out, ?_⟩
            by_cases hjn : j < v.nL
            · rw [if_pos hjn] at hnx
              subst hnx
              refine Or.inl ⟨j + 1, rfl, by omega, by omega, ?_⟩
              rw [hall]
              have e : v.nL + 1 - (j + 1) = v.nL - j := by omega
              rw [e]
            · rw [if_neg hjn] at hnx
              subst hnx
              refine Or.inr ⟨rfl, ?_⟩
              have e : v.nL - j = 0 := by omega
              rw [e] at hall
              rw [hall]
              simp [Lv.all]
          case measure =>
            show rm v.nL (.int .u32 ((nx : Nat) : Int)) < rm v.nL (.int .u32 ((j : Nat) : Int))
            simp only [rm]
            by_cases hjn : j < v.nL
            · rw [if_pos hjn] at hnx
              subst hnx
              have a1 : ¬ (((j + 1 : Nat) : Int) = 0) := by omega
              have a2 : ¬ ((j : Int) = 0) := by omega
              rw [if_neg a1, if_neg a2]
              omega
            · rw [if_neg hjn] at hnx
              subst hnx
              have a2 : ¬ ((j : Int) = 0) := by omega
              rw [if_pos (by omega), if_neg a2]
              omega
    · have HJp : Hid (J (v.all v.nL 1) wr) := hj
      clear hj hk
      go_wp2
      go_end0
      exact ⟨⟨_, rfl⟩, HJp.out⟩
end Go.Proofs.YbulkdhcgDoor
