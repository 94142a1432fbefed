/-
  The iterator 'pieces': the walk.
-/
import Derived.Test.YbulkdhcgDoorPieces
namespace Go.Proofs.YbulkdhcgDoor
open Go.RowKit
attribute [local go_sem] Oper.semAt_some wide_fn wide_depth wide_fn_in wide_depth_in

/-- what the closure has captured. -/
structure Capt (W : World) (b1 b2 b3 ba oa f q : Nat) : Prop where
  c1 : W.cell? ⟨b1, 0, none⟩ = some (.int .u32 f)
  c2 : W.cell? ⟨b2, 0, none⟩ = some (.int .u32 q)
  c3 : W.cell? ⟨b3, 0, none⟩ = some (.pointer (some ⟨ba, oa, none⟩))
theorem Capt.kept {K : Nat → Obj → Prop} {w W : World} {b1 b2 b3 ba oa f q : Nat} (h : Capt w b1 b2 b3 ba oa f q) (hk : Kept K w W) (h1 : KAt K w b1) (h2 : KAt K w b2) (h3 : KAt K w b3) : Capt W b1 b2 b3 ba oa f q :=
  ⟨hk.cell h1 h.c1, hk.cell h2 h.c2, hk.cell h3 h.c3⟩

theorem wi64 (n : Int) (h : -9223372036854775808 ≤ n ∧ n ≤ 9223372036854775807) : IntKind.i64.wrap n = n := by
  simp [IntKind.wrap, IntKind.bits, IntKind.signed]; omega
theorem wu32 (n : Int) (h : 0 ≤ n ∧ n ≤ 4294967295) : IntKind.u32.wrap n = n := by rw [IntKind.wrap_u32]; omega
theorem pcs_head (t : Mk) (q : Nat) {j : Nat} (hj : j < t.m) (k d : Nat) (hz : k + d = if q ≤ t.next j then q else t.next j) :
    pcs t q (t.m - j) j k = (j, k, k + d) :: (if q ≤ t.next j then [] else pcs t q (t.m - (j + 1)) (j + 1) (k + d)) := by
  obtain ⟨e, he⟩ : ∃ e, t.m - j = e + 1 := ⟨t.m - j - 1, by omega⟩
  have he2 : t.m - (j + 1) = e := by omega
  rw [he, he2, pcs, hz]
  split <;> rfl

set_option maxRecDepth 100000 in
set_option maxHeartbeats 4000000 in
theorem pieces_iter (ba oa bp bb bcap bm mcap : Nat) (t : Mk) (ht : t.Ok) (b1 b2 b3 f q : Nat) (K : Nat → Obj → Prop) (W : World) (hT : TextAt W ba oa bp bb bcap bm mcap t) (hC : Capt W b1 b2 b3 ba oa f q)
    (k1 : KAt K W b1) (k2 : KAt K W b2) (k3 : KAt K W b3) (k4 : KAt K W ba) (k5 : KAt K W bp) (k6 : KAt K W bb) (k7 : KAt K W bm) (hfq : f < q) (hq : q ≤ t.n) (l B : Nat) (i0 : Nat) (hi0 : i0 < t.m) (hi1 : t.mn i0 ≤ f) (hi2 : f < t.next i0) :
    SeqG Ybad.prog 25 #[.pointer (some ⟨b1, 0, none⟩), .pointer (some ⟨b2, 0, none⟩), .pointer (some ⟨b3, 0, none⟩)] (penc t bb bcap) K (pcs t q (t.m - i0) i0 f) l B W := by
  intro J hJ hY h0
  obtain ⟨g, rfl⟩ : ∃ g, f = t.mn i0 + g := ⟨f - t.mn i0, by omega⟩
  have HT : Hid (TextAt W ba oa bp bb bcap bm mcap t) := hT
  have HCp : Hid (Capt W b1 b2 b3 ba oa (t.mn i0 + g) q) := hC
  have HO : Hid t.Ok := ht
  have HY : Hid (∀ pre x V, J pre V → (pre ++ [x]) <+: pcs t q (t.m - i0) i0 (t.mn i0 + g) → YieldAt Fence.wide 0 Ybad.prog l (penc t bb bcap x) V fun e V' => e = .returned (.bool true) ∧ J (pre ++ [x]) V' ∧ Kept K V V' ∧ KeepsFrom B V V') := hY
  have HJ : Hid (OwnFrom B J) := hJ
  have H00 : Hid (J [] W) := h0
  have hsm := ht.small
  have hp := ht.pos
  have c1 := hC.c1
  have c2 := hC.c2
  have c3 := hC.c3
  have d1 := hT.ptr
  have d2 := hT.box
  have d3 := hT.marks
  have e1 := hT.cn i0 hi0
  have e2 := hT.cw i0 hi0
  have e3 := hT.ca i0 hi0
  clear hT hC ht hY hJ h0
  have hcan : ((t.mn i0 : Nat) : Int) + (g : Nat) - ((t.mn i0 : Nat) : Int) = ((g : Nat) : Int) := by omega
  have hoff : t.off (t.mn i0) ≤ 65536 := Nat.le_trans (HO.out.offs.mono (Nat.le_of_lt (HO.out.mnn hi0)) (Nat.le_refl _)) HO.out.bytes
  have hg : g ≤ 16384 := by omega
  refine callsIn_wide.2 ?_
  go_enter Ybad.func25, Ybad.ntmps25
  go_wp2_with (go_at_call 26; refine (stretch_any ba oa bm mcap t HO.out (t.mn i0 + g) _ (by assumption) HT.out.cn (by omega)).mono ?_; rintro e w' ⟨⟨i, rfl, hi, hia, hib⟩, hw⟩; obtain rfl := hw.symm; obtain rfl : i0 = i := HO.out.uniq hi0 hi hi1 hi2 hia hib)
  clear hi hia hib
  go_quiet (fail)
  obtain ⟨V, hV⟩ : ∃ V, V = W.drewN nq := ⟨_, rfl⟩
  have HK0 : Hid (Kept K W V) := by rw [hV]; exact ⟨rfl, rfl, rfl, Nat.le_refl _, fun _ _ h _ => h⟩
  have HJ0 : Hid (J [] V) := by rw [hV]; exact own_drewN HJ.out H00.out nq
  have HTV : Hid (TextAt V ba oa bp bb bcap bm mcap t) := HT.out.kept HK0.out k4 k5 k6 k7
  have HCV : Hid (Capt V b1 b2 b3 ba oa (t.mn i0 + g) q) := HCp.out.kept HK0.out k1 k2 k3
  rw [← hV]
  clear c1 c2 c3 d1 d2 d3 e1 e2 e3 hV
  have c1 := HCV.out.c1
  have e1 := HTV.out.cn i0 hi0
  have e2 := HTV.out.cw i0 hi0
  have e3 := HTV.out.ca i0 hi0
  go_upto_if 47 with fail
  go_cut [8] from 44 to 59 (fun v wd => v = .int .i64 (t.off (t.mn i0 + g)) ∧ ∃ n, wd = V.drewN n)
  case first =>
    cases hwd : t.mw i0
    · rw [hwd] at e2
      have hfl := flat_off HO.out hi0 hwd (Nat.le_refl _) g (by omega)
      go_wp2
      go_meet
      case rel => exact ⟨by rw [hfl]; go_num, 0, rfl⟩
    · rw [hwd] at e2
      go_wp2
      go_quiet ((go_at_call 27; exact Calls.quiet_of_same (pastChars_any bb (t.off t.n) bcap t.y t.off t.n (t.mn i0) g _ (fun j hj => HTV.out.bytes j hj) HO.out.offs rfl (by have := HO.out.bytes; omega) (by omega) (by omega))))
      go_wp2
      go_meet
      case rel => exact ⟨rfl, _, rfl⟩
  case rest =>
    obtain ⟨rfl, n, hn⟩ := hcut
    obtain ⟨U, hU⟩ : ∃ U, U = V.drewN n := ⟨_, rfl⟩
    have HK1 : Hid (Kept K W U) := by rw [hU]; exact HK0.out.trans ⟨rfl, rfl, rfl, Nat.le_refl _, fun _ _ h _ => h⟩
    have HJ1 : Hid (J [] U) := by rw [hU]; exact own_drewN HJ.out HJ0.out n
    subst hn
    rw [← hU]
    clear c1 e1 e2 e3 hU HK0 HJ0 HTV HCV
    have c1 : U.cell? ⟨b1, 0, none⟩ = some (.int .u32 (t.mn i0 + g : Nat)) := (HCp.out.kept HK1.out k1 k2 k3).c1
    go_wp2
    clear c1
    go_loopw [6, 8, 9] (fun i a n wr => ∃ (j k : Nat) (pre : List (Nat × Nat × Nat)), i = .int .i64 j ∧ a = .int .i64 (t.off k) ∧ n = .int .u32 k ∧ j < t.m ∧ t.mn j ≤ k ∧ k < t.next j ∧ k < q ∧
        pcs t q (t.m - i0) i0 (t.mn i0 + g) = pre ++ pcs t q (t.m - j) j k ∧ J pre wr ∧ Kept K W wr) (fun i _ _ _ => t.m - (intOf i).toNat)
    case atStart => exact ⟨i0, t.mn i0 + g, [], rfl, rfl, by go_num, hi0, by omega, hi2, hfq, rfl, HJ1.out, HK1.out⟩
    case round =>
      clear HJ1 HK1
      obtain ⟨j, k, pre, rfl, rfl, rfl, hj, hj1, hj2, hkq, hpr, hjp, hkp⟩ := hrel
      have HJp : Hid (J pre wr) := hjp
      have HKp : Hid (Kept K W wr) := hkp
      have HPR : Hid (pcs t q (t.m - i0) i0 (t.mn i0 + g) = pre ++ pcs t q (t.m - j) j k) := hpr
      have hT := HT.out.kept hkp k4 k5 k6 k7
      have hC := HCp.out.kept hkp k1 k2 k3
      have HTw : Hid (TextAt wr ba oa bp bb bcap bm mcap t) := hT
      have c2 := hC.c2
      have c3 := hC.c3
      have d3 := hT.marks
      have d4 := hT.num
      have e1 := hT.cn j hj
      have e2 := hT.cw j hj
      have hm : t.m ≤ 16384 := by
        have h1 : ∀ i, i < t.m → i ≤ t.mn i := by
          intro i
          induction i with
          | zero => intro _; omega
          | succ i ih => intro hi; have h2 := ih (by omega); have h3 := HO.out.mnlt' (i := i) (j := i + 1) (by omega) hi; omega
        have h2 := h1 (t.m - 1) (by omega)
        have h3 := HO.out.mnn (i := t.m - 1) (by omega)
        omega
      have hnn := HO.out.nextn hj
      clear hjp hkp hpr hT hC
      go_upto_if 80 with fail
      go_cut [11] from 73 to 89 (fun v wd => v = .int .u32 (t.next j) ∧ wr = wd)
      case first =>
        by_cases hlt : j + 1 < t.m
        · have hx : Hid (t.next j = t.mn (j + 1)) := by unfold Mk.next; rw [if_pos hlt]; trivial
          have f1 := HTw.out.cn (j + 1) hlt
          go_wp2
          go_meet
          case rel => exact ⟨by rw [hx.out], rfl⟩
        · have hx : Hid (t.next j = t.n) := by unfold Mk.next; rw [if_neg hlt]; trivial
          go_wp2
          go_meet
          case rel => exact ⟨by rw [hx.out], rfl⟩
      case rest =>
        obtain ⟨rfl, rfl⟩ := hcut
        obtain ⟨d, hz⟩ : ∃ d, k + d = if q ≤ t.next j then q else t.next j := ⟨(if q ≤ t.next j then q else t.next j) - k, by split <;> omega⟩
        have hzk : 0 < d := by split at hz <;> omega
        have hzn : k + d ≤ t.next j := by rw [hz]; split <;> omega
        have hzq : k + d ≤ q := by rw [hz]; split <;> omega
        have HZ : Hid (k + d = if q ≤ t.next j then q else t.next j) := hz
        have hmin : (if t.next j < q then ((t.next j : Nat) : Int) else ((q : Nat) : Int)) = (k : Int) + (d : Int) := by
          have hz2 : ((k + d : Nat) : Int) = (if q ≤ t.next j then ((q : Nat) : Int) else ((t.next j : Nat) : Int)) := by rw [hz]; split <;> rfl
          rw [← Int.natCast_add, hz2]
          split <;> split <;> omega
        have hkd : (k : Int) + (d : Int) - (k : Int) = (d : Int) := by omega
        have HO2 : Hid (t.off k ≤ 65536 ∧ t.off (k + d) ≤ 65536 ∧ t.off k ≤ t.off (k + d) ∧ t.off (k + d) ≤ t.off t.n) := ⟨Nat.le_trans (HO.out.offs.mono (by omega) (Nat.le_refl _)) HO.out.bytes, Nat.le_trans (HO.out.offs.mono (by omega) (Nat.le_refl _)) HO.out.bytes, HO.out.offs.mono (by omega) (by omega), HO.out.offs.mono (by omega) (Nat.le_refl _)⟩
        have ho1 := HO2.out.1
        have hd1 : d ≤ 16384 := by omega
        clear hz
        go_upto_if 102 with fail
        clear hmin
        go_cut [13] from 99 to 106 (fun v wd => v = .int .i64 (t.off (k + d)) ∧ wr = wd)
        case first =>
          cases hwd : t.mw j
          · rw [hwd] at e2
            have hfl := flat_off HO.out hj hwd hj1 d hzn
            go_wp2
            go_meet
            case rel => exact ⟨by rw [hfl]; go_num, rfl⟩
          · rw [hwd] at e2
            go_wp2_with (go_at_call 27; refine (pastChars_any bb (t.off t.n) bcap t.y t.off t.n k d _ HTw.out.bytes HO.out.offs rfl (by have := HO.out.bytes; omega) (by omega) (by omega)).mono ?_; rintro e w' ⟨rfl, hw⟩; obtain rfl := hw.symm)
            go_meet
            case rel => exact ⟨rfl, rfl⟩
        case rest =>
          obtain ⟨rfl, rfl⟩ := hcut
          have hhead := pcs_head t q hj k d HZ.out
          obtain ⟨fn, tmps, assign, body, hyr, hR⟩ := HY.out pre (j, k, k + d) wr.drew (own_drew HJ.out HJp.out) (by rw [HPR.out, hhead]; exact ⟨_, by rw [List.append_assoc]; rfl⟩)
          dsimp only [penc] at hyr
          have ho2 := HO2.out.2.1
          have ho3 := HO2.out.2.2.1
          have ho4 := HO2.out.2.2.2
          have hcb := HTw.out.capb
          have hcl := HTw.out.capl
          have hcb2 : t.off (k + d) ≤ bcap := by omega
          have hst : t.off k < t.off (k + d) := HO.out.offs.strict (by omega) (by omega)
          have hne1 : ¬ t.off k = bcap := by omega
          have hne2 : ¬ bcap = t.off k := by omega
          have hne3 : t.off k < bcap := by omega
          have hcb3 : ((t.off (k + d) : Nat) : Int) ≤ (bcap : Nat) := by omega
          have hcb4 : ((t.off k : Nat) : Int) ≤ ((t.off (k + d) : Nat) : Int) := by omega
          have HK3 : Hid (Kept K W wr.drew) := HKp.out.trans ⟨rfl, rfl, rfl, Nat.le_refl _, fun _ _ h _ => h⟩
          go_wp2
          refine (wpIn_wide (n := 0)).1 ?_
          gi_region_with (refine hR.mono ?_; rintro e W3 ⟨rfl, hj3, hk3, hf3⟩; have c2 : W3.cell? ⟨b2, 0, none⟩ = some (.int .u32 q) := (HCp.out.kept (HK3.out.trans hk3) k1 k2 k3).c2)
          have HJ3 : Hid (J (pre ++ [(j, k, k + d)]) W3) := hj3
          have HK4 : Hid (Kept K W W3) := HK3.out.trans hk3
          clear hj3 hk3 hf3 hyr hR c3 d3 d4 e1 e2 ho2 ho3 ho4 hcb hcl hcb2 hst hne1 hne2 hne3 hcb3 hcb4 HKp HJp HTw HK3
          have hwr : IntKind.u32.wrap ((k : Int) + (d : Int)) = (k : Int) + (d : Int) := by rw [IntKind.wrap_u32]; omega
          by_cases hqe : q ≤ t.next j
          · have HQ : Hid (k + d = q) := by have := HZ.out; rw [if_pos hqe] at this; exact this
            have hb : ((k : Int) + (d : Int) == (q : Int)) = true := by have := HQ.out; rw [beq_iff_eq]; omega
            have HQE : Hid (q ≤ t.next j) := hqe
            clear hqe
            go_wp2
            refine bodyPost_ret (results_none rfl _ _ _) rfl ?_
            exact ⟨⟨_, rfl⟩, by rw [HPR.out, hhead, if_pos HQE.out]; exact HJ3.out⟩
          · have HQ : Hid (k + d = t.next j ∧ k + d < q) := by have := HZ.out; rw [if_neg hqe] at this; exact ⟨this, by omega⟩
            have hj4 : j + 1 < t.m := by
              by_cases e : j + 1 < t.m
              · exact e
              · have h1 : t.next j = t.n := by unfold Mk.next; rw [if_neg e]
                omega
            have hb : ((k : Int) + (d : Int) == (q : Int)) = false := by have := HQ.out.2; rw [beq_eq_false_iff_ne]; omega
            have HN : Hid (t.next j = t.mn (j + 1)) := by unfold Mk.next; rw [if_pos hj4]; trivial
            have hT := HT.out.kept HK4.out k4 k5 k6 k7
            have hC := HCp.out.kept HK4.out k1 k2 k3
            have c3 := hC.c3
            have d3 := hT.marks
            have e3 := hT.ca (j + 1) hj4
            have HQE : Hid (¬ q ≤ t.next j) := hqe
            have i1 : ((j : Int) + 1) < (t.m : Nat) := by omega
            have i2 : (0 : Int) ≤ (j : Int) + 1 := by omega
            have i3 : ((j : Int) + 1).toNat = j + 1 := by omega
            have i4 : IntKind.i64.wrap ((j : Int) + 1) = (j : Int) + 1 := wi64 _ (by omega)
            clear hqe hT hC
            go_wp2
            go_quiet (fail)
            go_wp2
            go_roundw
            case rel =>
              refine ⟨j + 1, k + d, pre ++ [(j, k, k + d)], by go_num, ?_, by go_num, hj4, by rw [HQ.out.1, HN.out]; exact Nat.le_refl _, by rw [HQ.out.1, HN.out]; exact HO.out.step _ hj4, HQ.out.2, ?_, own_drewN HJ.out HJ3.out _, HK4.out.trans ⟨rfl, rfl, rfl, Nat.le_refl _, fun _ _ h _ => h⟩⟩
              · rw [HQ.out.1, HN.out]
              · rw [HPR.out, hhead, if_neg HQE.out, List.append_assoc]; rfl
            case measure => simp [intOf]; go_num
end Go.Proofs.YbulkdhcgDoor
