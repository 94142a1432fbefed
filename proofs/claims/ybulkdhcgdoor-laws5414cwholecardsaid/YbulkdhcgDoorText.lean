/-
  A charText in memory; stretch.
-/
import Derived.Test.YbulkdhcgDoorLeaves
namespace Go.Proofs.YbulkdhcgDoor
open Go.RowKit

/-- the marks of a charText, as plain data: m of them; n characters; where they stand. -/
structure Mk where
  (m : Nat) (mn : Nat → Nat) (mw : Nat → Bool) (n : Nat) (off : Nat → Nat) (y : Nat → Int)
def Mk.next (t : Mk) (i : Nat) : Nat := if i + 1 < t.m then t.mn (i + 1) else t.n
structure Mk.Ok (t : Mk) : Prop where
  offs : Offs t.y t.off t.n
  pos : 0 < t.m
  zero : t.mn 0 = 0
  step : ∀ i, i < t.m → t.mn i < t.next i
  flat : ∀ i, i < t.m → t.mw i = false → ∀ k, t.mn i ≤ k → k < t.next i → t.off (k + 1) = t.off k + 1
  small : t.n ≤ 16384
  bytes : t.off t.n ≤ 65536

theorem Mk.Ok.mnlt {t : Mk} (h : t.Ok) : ∀ d i, i + d + 1 < t.m → t.mn i < t.mn (i + d + 1)
  | 0, i, hi => by have := h.step i (by omega); unfold Mk.next at this; rw [if_pos (by omega)] at this; exact this
  | d + 1, i, hi => by
    have h1 := h.mnlt d i (by omega)
    have h2 := h.step (i + d + 1) (by omega)
    unfold Mk.next at h2; rw [if_pos (by omega)] at h2
    have e : i + (d + 1) + 1 = i + d + 1 + 1 := by omega
    rw [e]; omega
theorem Mk.Ok.mnlt' {t : Mk} (h : t.Ok) {i j : Nat} (hi : i < j) (hj : j < t.m) : t.mn i < t.mn j := by
  have := h.mnlt (j - i - 1) i (by omega)
  have e : i + (j - i - 1) + 1 = j := by omega
  rw [e] at this; exact this
theorem Mk.Ok.next_le {t : Mk} (h : t.Ok) : ∀ d i, t.m - i = d → i < t.m → t.next i ≤ t.n
  | 0, i, hd, hi => by omega
  | d + 1, i, hd, hi => by
    unfold Mk.next
    split
    · have h1 := h.step (i + 1) (by omega)
      have h2 := Mk.Ok.next_le h d (i + 1) (by omega) (by omega)
      omega
    · exact Nat.le_refl _
theorem Mk.Ok.nextn {t : Mk} (h : t.Ok) {i : Nat} (hi : i < t.m) : t.next i ≤ t.n := h.next_le _ i rfl hi
theorem Mk.Ok.mnn {t : Mk} (h : t.Ok) {i : Nat} (hi : i < t.m) : t.mn i < t.n := Nat.lt_of_lt_of_le (h.step i hi) (h.nextn hi)

/-- the charText at block ba, offset oa: the bytes' box bp, their block bb, the marks' block bm. -/
structure TextAt (w : World) (ba oa bp bb bcap bm mcap : Nat) (t : Mk) : Prop where
  ptr : w.cell? ⟨ba, oa, none⟩ = some (.pointer (some ⟨bp, 0, none⟩))
  box : w.cell? ⟨bp, 0, none⟩ = some (.slice (some ⟨bb, 0, none⟩) (t.off t.n) bcap)
  bytes : Bytes w bb (t.off t.n) t.y
  marks : w.cell? ⟨ba, oa + 1, none⟩ = some (.slice (some ⟨bm, 0, none⟩) t.m mcap)
  cn : ∀ i, i < t.m → w.cell? ⟨bm, i * 3, none⟩ = some (.int .u32 (t.mn i))
  cw : ∀ i, i < t.m → w.cell? ⟨bm, i * 3 + 1, none⟩ = some (.bool (t.mw i))
  ca : ∀ i, i < t.m → w.cell? ⟨bm, i * 3 + 2, none⟩ = some (.int .i64 (t.off (t.mn i)))
  num : w.cell? ⟨ba, oa + 3, none⟩ = some (.int .u32 t.n)
  capb : t.off t.n ≤ bcap
  capl : bcap ≤ 1048576

theorem TextAt.kept {K : Nat → Obj → Prop} {w W : World} {ba oa bp bb bcap bm mcap : Nat} {t : Mk} (h : TextAt w ba oa bp bb bcap bm mcap t) (hk : Kept K w W) (h1 : KAt K w ba) (h2 : KAt K w bp) (h3 : KAt K w bb) (h4 : KAt K w bm) : TextAt W ba oa bp bb bcap bm mcap t :=
  ⟨hk.cell h1 h.ptr, hk.cell h2 h.box, fun j hj => hk.cell h3 (h.bytes j hj), hk.cell h1 h.marks, fun i hi => hk.cell h4 (h.cn i hi), fun i hi => hk.cell h4 (h.cw i hi), fun i hi => hk.cell h4 (h.ca i hi), hk.cell h1 h.num, h.capb, h.capl⟩

set_option maxHeartbeats 1000000 in
theorem stretch_any (ba oa bm mcap : Nat) (t : Mk) (ho : t.Ok) (k : Nat) (w : World) (cm : w.cell? ⟨ba, oa + 1, none⟩ = some (.slice (some ⟨bm, 0, none⟩) t.m mcap))
    (cn : ∀ i, i < t.m → w.cell? ⟨bm, i * 3, none⟩ = some (.int .u32 (t.mn i))) (hk : k < t.n) :
    Calls Ybad.prog 26 #[.pointer (some ⟨ba, oa, none⟩), .int .u32 k] w fun e w' => (∃ i : Nat, e = .returned (.int .i64 i) ∧ i < t.m ∧ t.mn i ≤ k ∧ k < t.next i) ∧ w' = w := by
  have HO : Hid (t.Ok) := ho
  have HC : Hid (∀ i, i < t.m → w.cell? ⟨bm, i * 3, none⟩ = some (.int .u32 (t.mn i))) := cn
  have hp := ho.pos
  have hm : t.m ≤ 16384 := by
    have h1 : ∀ i, i < t.m → i ≤ t.mn i := by
      intro i
      induction i with
      | zero => intro _; omega
      | succ i ih => intro hi; have h2 := ih (by omega); have h3 := ho.mnlt' (i := i) (j := i + 1) (by omega) hi; omega
    have h2 := h1 (t.m - 1) (by omega)
    have h3 := ho.mnn (i := t.m - 1) (by omega)
    have h4 := ho.small
    omega
  obtain ⟨m, hmm⟩ : ∃ m, m = t.m := ⟨_, rfl⟩
  have HM : Hid (m = t.m) := hmm
  rw [← hmm] at hp hm cm
  clear ho cn hmm
  have cl : w.cell? ⟨bm, (m - 1) * 3, none⟩ = some (.int .u32 (t.mn (m - 1))) := HC.out _ (by rw [← HM.out]; omega)
  have hm1 : ((m : Int) - 1).toNat = m - 1 := by omega
  by_cases hlast : t.mn (m - 1) ≤ k
  · have HL : Hid (t.mn (m - 1) ≤ k) := hlast
    have hcmp : ((t.mn (m - 1) : Nat) : Int) ≤ (k : Int) := by omega
    clear hlast
    go_enter Ybad.func26, Ybad.ntmps26
    go_wp2
    go_ret
    refine ⟨⟨m - 1, by go_num, by rw [← HM.out]; omega, HL.out, ?_⟩, rfl⟩
    unfold Mk.next
    rw [if_neg (by rw [← HM.out]; omega)]
    exact hk
  · have HL : Hid (k < t.mn (m - 1)) := Nat.lt_of_not_le hlast
    have hcmp : ¬ ((t.mn (m - 1) : Nat) : Int) ≤ (k : Int) := by omega
    clear hlast
    go_enter Ybad.func26, Ybad.ntmps26
    go_wp2
    clear cl hcmp
    go_loop [6, 7] (fun h l => ∃ a b : Nat, h = .int .i64 b ∧ l = .int .i64 a ∧ a < b ∧ b < m ∧ t.mn a ≤ k ∧ k < t.mn b) (fun h l => (intOf h - intOf l).toNat)
    case atStart => exact ⟨0, m - 1, by go_num, rfl, by
        have h1 := HL.out
        by_cases e : m - 1 = 0
        · rw [e, HO.out.zero] at h1; omega
        · omega, by omega, by rw [HO.out.zero]; omega, HL.out⟩
    case round =>
      obtain ⟨a, b, rfl, rfl, hab, hbm, ha, hb⟩ := hrel
      have HA : Hid (t.mn a ≤ k) := ha
      have HBk : Hid (k < t.mn b) := hb
      clear ha hb
      by_cases hd : b - a > 1
      · obtain ⟨c, hc⟩ : ∃ c, c = (a + b) / 2 := ⟨_, rfl⟩
        have h1 : a < c := by omega
        have h2 : c < b := by omega
        have c1 : w.cell? ⟨bm, c * 3, none⟩ = some (.int .u32 (t.mn c)) := HC.out _ (by rw [← HM.out]; omega)
        have e1 : ((a : Int) + b) / 2 = (c : Int) := by omega
        clear hc
        by_cases hcm : t.mn c ≤ k
        · have HCM : Hid (t.mn c ≤ k) := hcm
          have hcmp : ((t.mn c : Nat) : Int) ≤ (k : Int) := by omega
          clear hcm
          go_wp2
          go_round
          case rel => exact ⟨c, b, rfl, by go_num, h2, hbm, HCM.out, HBk.out⟩
          case measure => simp [intOf]; go_num
        · have HCM : Hid (k < t.mn c) := Nat.lt_of_not_le hcm
          have hcmp : ¬ ((t.mn c : Nat) : Int) ≤ (k : Int) := by omega
          clear hcm
          go_wp2
          go_round
          case rel => exact ⟨a, c, by go_num, rfl, h1, by omega, HA.out, HCM.out⟩
          case measure => simp [intOf]; go_num
      · go_wp2
        go_ret
        refine ⟨⟨a, rfl, by rw [← HM.out]; omega, HA.out, ?_⟩, rfl⟩
        unfold Mk.next
        rw [if_pos (by rw [← HM.out]; omega)]
        have e : a + 1 = b := by omega
        rw [e]; exact HBk.out
end Go.Proofs.YbulkdhcgDoor
