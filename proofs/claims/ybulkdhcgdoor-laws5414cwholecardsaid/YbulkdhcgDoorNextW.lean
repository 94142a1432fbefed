/-
  next: the walk.
-/
import Derived.Test.YbulkdhcgDoorNext
namespace Go.Proofs.YbulkdhcgDoor
open Go.RowKit

theorem wu64 (n : Int) (h : 0 ≤ n ∧ n < 18446744073709551616) : IntKind.u64.wrap n = n := by rw [IntKind.wrap_u64]; omega

theorem xor_cw (v : Nat) (hv : v < 18446744073709551616) : 18446744073709551615 ^^^ v = cw v := by
  apply Nat.eq_of_testBit_eq
  intro j
  rw [cw_bit v hv, Nat.testBit_xor]
  have h := Nat.testBit_two_pow_sub_one 64 j
  rw [show 2 ^ 64 - 1 = 18446744073709551615 by decide] at h
  rw [h]
  by_cases e : j < 64
  · simp [e]
  · have : v.testBit j = false := Nat.testBit_lt_two_pow (Nat.lt_of_lt_of_le hv (by have := Nat.pow_le_pow_right (n := 2) (by omega) (show 64 ≤ j by omega); simpa using this))
    simp [e, this]
theorem free_eq (v r : Nat) (hv : v < 18446744073709551616) : bits .xor .u64 IntKind.u64.max (v : Int) / 2 ^ r = ((cw v / 2 ^ r : Nat) : Int) := by
  have e : IntKind.u64.max = ((18446744073709551615 : Nat) : Int) := by decide
  rw [e, bits_xor_u64_nat _ _ (by omega) hv, xor_cw v hv]
  simp
theorem compl_eq (v : Nat) (hv : v < 18446744073709551616) : bits .xor .u64 IntKind.u64.max (v : Int) = ((cw v : Nat) : Int) := by
  have e : IntKind.u64.max = ((18446744073709551615 : Nat) : Int) := by decide
  rw [e, bits_xor_u64_nat _ _ (by omega) hv, xor_cw v hv]

set_option maxHeartbeats 4000000 in
theorem next_any (s : Lvs) (hs : s.Ok) (bd od n : Nat) (a : Option Addr) (c : Nat) (av : Nat → Option Addr) (cv : Nat → Nat) (w : World) (hT : Tab w) (h : s.At w bd od a c av cv) (hn : n ≤ 131072) :
    Calls Ybad.prog 12 #[.pointer (some ⟨bd, od, none⟩), .int .u32 n] w fun e w' => (∃ k : Nat, e = .returned (.int .u32 k) ∧ s.From n k) ∧ w' = w := by
  have HS : Hid s.Ok := hs
  have HT : Hid (Tab w) := hT
  have HA : Hid (s.At w bd od a c av cv) := h
  have c1 := h.top
  have hL := hs.L
  obtain ⟨L, hLL⟩ : ∃ L, L = s.L := ⟨_, rfl⟩
  have HL : Hid (L = s.L) := hLL
  rw [← hLL] at c1 hL
  clear hs hT h hLL
  go_enter Ybad.func12, Ybad.ntmps12
  have hsg : IntKind.u64.signed = false := rfl
  go_wp2
  go_loop [5, 6] (fun k i => ∃ (x j : Nat), k = .int .u64 x ∧ i = .int .i64 j ∧ j ≤ L ∧ s.From n (x * 64 ^ j)) (fun _ i => L - (intOf i).toNat)
  case atStart => exact ⟨n, 0, by go_num, rfl, Nat.zero_le _, by simp, fun q h1 h2 => by simp at h2; omega⟩
  case round =>
    obtain ⟨x, j, rfl, rfl, hj, hf⟩ := hrel
    have HF : Hid (s.From n (x * 64 ^ j)) := hf
    have hx : x ≤ 131072 := by
      have h1 := hf.le HS.out hn
      have hp : 0 < 64 ^ j := Nat.pow_pos (by omega)
      exact Nat.le_trans (Nat.le_mul_of_pos_right x hp) h1
    clear hf
    by_cases hjl : j < L
    · obtain ⟨bl, hbl⟩ := HA.out.at0 (by rw [← HL.out]; omega)
      clear c1
      have c1 := HA.out.top
      rw [← HL.out, hbl] at c1
      have c2 := HA.out.row bl hbl j (by rw [← HL.out]; exact hjl)
      have hw := HA.out.words j (by rw [← HL.out]; exact hjl)
      have hnw := HS.out.nw j
      obtain ⟨m, hm⟩ : ∃ m, m = s.nw j := ⟨_, rfl⟩
      have HM : Hid (m = s.nw j) := hm
      obtain ⟨aj, haj⟩ : ∃ aj, aj = av j := ⟨_, rfl⟩
      rw [← hm, ← haj] at c2 hw
      rw [← hm] at hnw
      clear hm haj
      have i1 : (j : Int) < (L : Int) := by omega
      by_cases hxm : x / 64 < m
      · obtain ⟨b0, rfl⟩ := hw.at0 (by omega)
        have c3 := hw.cell (x / 64) hxm b0 rfl
        have hv := hw.lt (x / 64)
        obtain ⟨v, hvv⟩ : ∃ v, v = s.wd j (x / 64) := ⟨_, rfl⟩
        rw [← hvv] at c3 hv
        have HB : Hid (∀ b, b < 64 → v.testBit b = true → s.bit j (64 * (x / 64) + b) = true) := by
          intro b hb h1
          have e1 : (64 * (x / 64) + b) / 64 = x / 64 := by omega
          have e2 : (64 * (x / 64) + b) % 64 = b := by omega
          unfold Lvs.bit bitAt
          rw [e1, e2, ← hvv, ← HM.out, ← HL.out, h1]
          simp [hxm, hjl]
        have hfe := free_eq v (x % 64) hv
        have HFZ : Hid (cw v / 2 ^ (x % 64) = 0 → ∀ b, x % 64 ≤ b → b < 64 → v.testBit b = true) := fun h b h1 h2 => free_zero v _ hv h b h1 h2
        have HFS : Hid (cw v / 2 ^ (x % 64) ≠ 0 → x % 64 + Lib.ctz 64 (cw v / 2 ^ (x % 64)) < 64 ∧ ∀ b, x % 64 ≤ b → b < x % 64 + Lib.ctz 64 (cw v / 2 ^ (x % 64)) → v.testBit b = true) := fun h => free_some v _ hv h
        have hfl : cw v / 2 ^ (x % 64) < 18446744073709551616 := Nat.lt_of_le_of_lt (Nat.div_le_self _ _) (cw_lt v)
        obtain ⟨fr, hfr⟩ : ∃ fr, fr = cw v / 2 ^ (x % 64) := ⟨_, rfl⟩
        rw [← hfr] at hfe hfl HFZ HFS
        clear hvv hw hfr hv
        have i2 : ((x : Int) / 64) < (m : Int) := by omega
        have i3 : ((x : Int) / 64).toNat = x / 64 := by omega
        by_cases hz : fr = 0
        · subst hz
          have HN : Hid (s.From n ((x / 64 + 1) * 64 ^ (j + 1))) := by
            have h1 := HF.out.more HS.out (64 - x % 64) (fun b h1 h2 => by
              have := HB.out (b % 64) (by omega) (HFZ.out rfl (b % 64) (by omega) (by omega))
              rw [show 64 * (x / 64) + b % 64 = b by omega] at this
              exact this)
            have e : (x + (64 - x % 64)) * 64 ^ j = (x / 64 + 1) * 64 ^ (j + 1) := by
              rw [Nat.pow_succ, Nat.mul_comm (64 ^ j) 64, ← Nat.mul_assoc]
              congr 1
              omega
            rw [e] at h1; exact h1
          clear hfl hbl
          go_wp2
          go_round
          case rel => exact ⟨x / 64 + 1, j + 1, by go_num, by go_num, by omega, HN.out⟩
          case measure => simp [intOf]; go_num
        · have htz := tz_any fr hfl w HT.out
          have hne : ((fr : Int) == 0) = false := by rw [beq_eq_false_iff_ne]; omega
          obtain ⟨t, ht⟩ : ∃ t, t = Lib.ctz 64 fr := ⟨_, rfl⟩
          have hs2 := HFS.out hz
          rw [← ht] at htz hs2
          have HX : Hid (s.From n ((x + t) * 64 ^ j)) := HF.out.more HS.out t (fun b h1 h2 => by
              have := HB.out (b % 64) (by omega) (hs2.2 (b % 64) (by omega) (by omega))
              rw [show 64 * (x / 64) + b % 64 = b by omega] at this
              exact this)
          have ht64 : t < 64 := by omega
          have HTZ : Hid (Calls Ybad.prog 18 #[.int .u64 fr] w fun e w' => e = .returned (.int .i64 (t : Nat)) ∧ w' = w) := htz
          clear ht hs2 hfl htz hbl
          go_wp2_with (go_at_call 18; refine HTZ.out.mono ?_; rintro e w' ⟨rfl, hw⟩; obtain rfl := hw.symm)
          clear HTZ hne hz c2 c3 hfe HFZ HFS HB i1 i2 i3 hjl hxm
          go_loop [5, 6] (fun k i => ∃ (x j : Nat), k = .int .u64 x ∧ i = .int .i64 j ∧ j ≤ L ∧ s.From n (x * 64 ^ j)) (fun _ i => (intOf i).toNat)
          case atStart => exact ⟨(x + t), j, by go_num, rfl, hj, HX.out⟩
          case round =>
            clear HX hj HF hx
            obtain ⟨x, j, rfl, rfl, hj, hf⟩ := hrel
            have HF : Hid (s.From n (x * 64 ^ j)) := hf
            have hle := hf.le HS.out hn
            clear hf
            by_cases hj0 : j = 0
            · subst hj0
              have hx : x ≤ 131072 := by simpa using hle
              go_wp2
              go_ret
              exact ⟨⟨x, by go_num, by have := HF.out; simpa using this⟩, rfl⟩
            · obtain ⟨i, rfl⟩ : ∃ i, j = i + 1 := ⟨j - 1, by omega⟩
              have hx : x ≤ 2048 := by
                rw [Nat.pow_succ, Nat.mul_comm (64 ^ i) 64, ← Nat.mul_assoc] at hle
                have hp : 0 < 64 ^ i := Nat.pow_pos (by omega)
                have := Nat.le_trans (Nat.le_mul_of_pos_right (x * 64) hp) hle
                omega
              clear hle
              obtain ⟨bl, hbl⟩ := HA.out.at0 (by rw [← HL.out]; omega)
              clear c1
              have c1 := HA.out.top
              rw [← HL.out, hbl] at c1
              have c2 := HA.out.row bl hbl i (by rw [← HL.out]; omega)
              have hw := HA.out.words i (by rw [← HL.out]; omega)
              have hnw := HS.out.nw i
              obtain ⟨m, hm⟩ : ∃ m, m = s.nw i := ⟨_, rfl⟩
              have HM : Hid (m = s.nw i) := hm
              obtain ⟨aj, haj⟩ : ∃ aj, aj = av i := ⟨_, rfl⟩
              rw [← hm, ← haj] at c2 hw
              rw [← hm] at hnw
              have i1 : (i : Int) < (L : Int) := by omega
              have i4 : ((i : Int) + 1 - 1) = (i : Int) := by omega
              by_cases hxm : x < m
              · obtain ⟨b0, hb0⟩ := hw.at0 (by omega)
                have c3 := hw.cell x hxm b0 hb0
                rw [hb0] at c2
                have hv := hw.lt x
                obtain ⟨v, hvv⟩ : ∃ v, v = s.wd i x := ⟨_, rfl⟩
                rw [← hvv] at c3 hv
                have hco := compl_eq v hv
                have hfa := free_all v hv
                have htz := tz_any (cw v) (cw_lt v) w HT.out
                obtain ⟨t, ht⟩ : ∃ t, t = Lib.ctz 64 (cw v) := ⟨_, rfl⟩
                rw [← ht] at htz hfa
                have HN : Hid (s.From n ((x * 64 + t) * 64 ^ i)) := by
                  have hF := HF.out
                  rw [Nat.pow_succ, Nat.mul_comm (64 ^ i) 64, ← Nat.mul_assoc] at hF
                  exact hF.more HS.out t (fun b h1 h2 => by
                    have h3 := hfa.2 (b - x * 64) (by omega)
                    have h4 := hfa.1
                    have e1 : b / 64 = x := by omega
                    have e2 : b % 64 = b - x * 64 := by omega
                    unfold Lvs.bit bitAt
                    rw [e1, e2, ← hvv, ← HM.out, ← HL.out, h3]
                    have : i < L := by omega
                    simp [hxm, this])
                have ht64 : t ≤ 64 := hfa.1
                obtain ⟨y, hy⟩ : ∃ y, y = cw v := ⟨_, rfl⟩
                rw [← hy] at hco htz
                have i2 : (x : Int) < (m : Int) := by omega
                have HTZ : Hid (Calls Ybad.prog 18 #[.int .u64 y] w fun e w' => e = .returned (.int .i64 (t : Nat)) ∧ w' = w) := htz
                clear hm haj hw hfa ht hv hvv hy htz hbl hb0
                go_wp2_with (go_at_call 18; refine HTZ.out.mono ?_; rintro e w' ⟨rfl, hw⟩; obtain rfl := hw.symm)
                go_round
                case rel => exact ⟨x * 64 + t, i, by go_num, by go_num, by omega, HN.out⟩
                case measure => simp [intOf]
              · have htz := tz_any 18446744073709551615 (by omega) w HT.out
                have e0 : Lib.ctz 64 18446744073709551615 = 0 := ctz_uniq _ _ (by omega) (by decide) (fun j hj => by omega)
                rw [e0] at htz
                have hco := compl_eq 0 (by omega)
                have HTZ : Hid (Calls Ybad.prog 18 #[.int .u64 18446744073709551615] w fun e w' => e = .returned (.int .i64 0) ∧ w' = w) := htz
                have HN : Hid (s.From n ((x * 64) * 64 ^ i)) := by
                  have hF := HF.out
                  rw [Nat.pow_succ, Nat.mul_comm (64 ^ i) 64, ← Nat.mul_assoc] at hF
                  exact hF
                have i2 : ¬ (x : Int) < (m : Int) := by omega
                have hco2 : bits .xor .u64 IntKind.u64.max 0 = 18446744073709551615 := hco
                clear hm haj hw htz hbl hco
                go_wp2_with (go_at_call 18; refine HTZ.out.mono ?_; rintro e w' ⟨rfl, hw⟩; obtain rfl := hw.symm)
                go_round
                case rel => exact ⟨x * 64, i, by go_num, by go_num, by omega, HN.out⟩
                case measure => simp [intOf]
      · clear hw hbl
        have i2 : ¬ ((x : Int) / 64) < (m : Int) := by omega
        have HX : Hid (s.From n (x * 64 ^ j)) := HF.out
        go_wp2
        clear c2 i1 i2 hjl hxm
        go_loop [5, 6] (fun k i => ∃ (x j : Nat), k = .int .u64 x ∧ i = .int .i64 j ∧ j ≤ L ∧ s.From n (x * 64 ^ j)) (fun _ i => (intOf i).toNat)
        case atStart => exact ⟨x, j, by go_num, rfl, hj, HX.out⟩
        case round =>
          clear HX hj HF hx
          obtain ⟨x, j, rfl, rfl, hj, hf⟩ := hrel
          have HF : Hid (s.From n (x * 64 ^ j)) := hf
          have hle := hf.le HS.out hn
          clear hf
          by_cases hj0 : j = 0
          · subst hj0
            have hx : x ≤ 131072 := by simpa using hle
            go_wp2
            go_ret
            exact ⟨⟨x, by go_num, by have := HF.out; simpa using this⟩, rfl⟩
          · obtain ⟨i, rfl⟩ : ∃ i, j = i + 1 := ⟨j - 1, by omega⟩
            have hx : x ≤ 2048 := by
              rw [Nat.pow_succ, Nat.mul_comm (64 ^ i) 64, ← Nat.mul_assoc] at hle
              have hp : 0 < 64 ^ i := Nat.pow_pos (by omega)
              have := Nat.le_trans (Nat.le_mul_of_pos_right (x * 64) hp) hle
              omega
            clear hle
            obtain ⟨bl, hbl⟩ := HA.out.at0 (by rw [← HL.out]; omega)
            clear c1
            have c1 := HA.out.top
            rw [← HL.out, hbl] at c1
            have c2 := HA.out.row bl hbl i (by rw [← HL.out]; omega)
            have hw := HA.out.words i (by rw [← HL.out]; omega)
            have hnw := HS.out.nw i
            obtain ⟨m, hm⟩ : ∃ m, m = s.nw i := ⟨_, rfl⟩
            have HM : Hid (m = s.nw i) := hm
            obtain ⟨aj, haj⟩ : ∃ aj, aj = av i := ⟨_, rfl⟩
            rw [← hm, ← haj] at c2 hw
            rw [← hm] at hnw
            have i1 : (i : Int) < (L : Int) := by omega
            have i4 : ((i : Int) + 1 - 1) = (i : Int) := by omega
            by_cases hxm : x < m
            · obtain ⟨b0, hb0⟩ := hw.at0 (by omega)
              have c3 := hw.cell x hxm b0 hb0
              rw [hb0] at c2
              have hv := hw.lt x
              obtain ⟨v, hvv⟩ : ∃ v, v = s.wd i x := ⟨_, rfl⟩
              rw [← hvv] at c3 hv
              have hco := compl_eq v hv
              have hfa := free_all v hv
              have htz := tz_any (cw v) (cw_lt v) w HT.out
              obtain ⟨t, ht⟩ : ∃ t, t = Lib.ctz 64 (cw v) := ⟨_, rfl⟩
              rw [← ht] at htz hfa
              have HN : Hid (s.From n ((x * 64 + t) * 64 ^ i)) := by
                have hF := HF.out
                rw [Nat.pow_succ, Nat.mul_comm (64 ^ i) 64, ← Nat.mul_assoc] at hF
                exact hF.more HS.out t (fun b h1 h2 => by
                  have h3 := hfa.2 (b - x * 64) (by omega)
                  have h4 := hfa.1
                  have e1 : b / 64 = x := by omega
                  have e2 : b % 64 = b - x * 64 := by omega
                  unfold Lvs.bit bitAt
                  rw [e1, e2, ← hvv, ← HM.out, ← HL.out, h3]
                  have : i < L := by omega
                  simp [hxm, this])
              have ht64 : t ≤ 64 := hfa.1
              obtain ⟨y, hy⟩ : ∃ y, y = cw v := ⟨_, rfl⟩
              rw [← hy] at hco htz
              have i2 : (x : Int) < (m : Int) := by omega
              have HTZ : Hid (Calls Ybad.prog 18 #[.int .u64 y] w fun e w' => e = .returned (.int .i64 (t : Nat)) ∧ w' = w) := htz
              clear hm haj hw hfa ht hv hvv hy htz hbl hb0
              go_wp2_with (go_at_call 18; refine HTZ.out.mono ?_; rintro e w' ⟨rfl, hw⟩; obtain rfl := hw.symm)
              go_round
              case rel => exact ⟨x * 64 + t, i, by go_num, by go_num, by omega, HN.out⟩
              case measure => simp [intOf]
            · have htz := tz_any 18446744073709551615 (by omega) w HT.out
              have e0 : Lib.ctz 64 18446744073709551615 = 0 := ctz_uniq _ _ (by omega) (by decide) (fun j hj => by omega)
              rw [e0] at htz
              have hco := compl_eq 0 (by omega)
              have HTZ : Hid (Calls Ybad.prog 18 #[.int .u64 18446744073709551615] w fun e w' => e = .returned (.int .i64 0) ∧ w' = w) := htz
              have HN : Hid (s.From n ((x * 64) * 64 ^ i)) := by
                have hF := HF.out
                rw [Nat.pow_succ, Nat.mul_comm (64 ^ i) 64, ← Nat.mul_assoc] at hF
                exact hF
              have i2 : ¬ (x : Int) < (m : Int) := by omega
              have hco2 : bits .xor .u64 IntKind.u64.max 0 = 18446744073709551615 := hco
              clear hm haj hw htz hbl hco
              go_wp2_with (go_at_call 18; refine HTZ.out.mono ?_; rintro e w' ⟨rfl, hw⟩; obtain rfl := hw.symm)
              go_round
              case rel => exact ⟨x * 64, i, by go_num, by go_num, by omega, HN.out⟩
              case measure => simp [intOf]
    · have i1 : ¬ (j : Int) < (L : Int) := by omega
      have HX : Hid (s.From n (x * 64 ^ j)) := HF.out
      go_wp2
      clear hjl i1
      go_loop [5, 6] (fun k i => ∃ (x j : Nat), k = .int .u64 x ∧ i = .int .i64 j ∧ j ≤ L ∧ s.From n (x * 64 ^ j)) (fun _ i => (intOf i).toNat)
      case atStart => exact ⟨x, j, by go_num, rfl, hj, HX.out⟩
      case round =>
        clear HX hj HF hx
        obtain ⟨x, j, rfl, rfl, hj, hf⟩ := hrel
        have HF : Hid (s.From n (x * 64 ^ j)) := hf
        have hle := hf.le HS.out hn
        clear hf
        by_cases hj0 : j = 0
        · subst hj0
          have hx : x ≤ 131072 := by simpa using hle
          go_wp2
          go_ret
          exact ⟨⟨x, by go_num, by have := HF.out; simpa using this⟩, rfl⟩
        · obtain ⟨i, rfl⟩ : ∃ i, j = i + 1 := ⟨j - 1, by omega⟩
          have hx : x ≤ 2048 := by
            rw [Nat.pow_succ, Nat.mul_comm (64 ^ i) 64, ← Nat.mul_assoc] at hle
            have hp : 0 < 64 ^ i := Nat.pow_pos (by omega)
            have := Nat.le_trans (Nat.le_mul_of_pos_right (x * 64) hp) hle
            omega
          clear hle
          obtain ⟨bl, hbl⟩ := HA.out.at0 (by rw [← HL.out]; omega)
          clear c1
          have c1 := HA.out.top
          rw [← HL.out, hbl] at c1
          have c2 := HA.out.row bl hbl i (by rw [← HL.out]; omega)
          have hw := HA.out.words i (by rw [← HL.out]; omega)
          have hnw := HS.out.nw i
          obtain ⟨m, hm⟩ : ∃ m, m = s.nw i := ⟨_, rfl⟩
          have HM : Hid (m = s.nw i) := hm
          obtain ⟨aj, haj⟩ : ∃ aj, aj = av i := ⟨_, rfl⟩
          rw [← hm, ← haj] at c2 hw
          rw [← hm] at hnw
          have i1 : (i : Int) < (L : Int) := by omega
          have i4 : ((i : Int) + 1 - 1) = (i : Int) := by omega
          by_cases hxm : x < m
          · obtain ⟨b0, hb0⟩ := hw.at0 (by omega)
            have c3 := hw.cell x hxm b0 hb0
            rw [hb0] at c2
            have hv := hw.lt x
            obtain ⟨v, hvv⟩ : ∃ v, v = s.wd i x := ⟨_, rfl⟩
            rw [← hvv] at c3 hv
            have hco := compl_eq v hv
            have hfa := free_all v hv
            have htz := tz_any (cw v) (cw_lt v) w HT.out
            obtain ⟨t, ht⟩ : ∃ t, t = Lib.ctz 64 (cw v) := ⟨_, rfl⟩
            rw [← ht] at htz hfa
            have HN : Hid (s.From n ((x * 64 + t) * 64 ^ i)) := by
              have hF := HF.out
              rw [Nat.pow_succ, Nat.mul_comm (64 ^ i) 64, ← Nat.mul_assoc] at hF
              exact hF.more HS.out t (fun b h1 h2 => by
                have h3 := hfa.2 (b - x * 64) (by omega)
                have h4 := hfa.1
                have e1 : b / 64 = x := by omega
                have e2 : b % 64 = b - x * 64 := by omega
                unfold Lvs.bit bitAt
                rw [e1, e2, ← hvv, ← HM.out, ← HL.out, h3]
                have : i < L := by omega
                simp [hxm, this])
            have ht64 : t ≤ 64 := hfa.1
            obtain ⟨y, hy⟩ : ∃ y, y = cw v := ⟨_, rfl⟩
            rw [← hy] at hco htz
            have i2 : (x : Int) < (m : Int) := by omega
            have HTZ : Hid (Calls Ybad.prog 18 #[.int .u64 y] w fun e w' => e = .returned (.int .i64 (t : Nat)) ∧ w' = w) := htz
            clear hm haj hw hfa ht hv hvv hy htz hbl hb0
            go_wp2_with (go_at_call 18; refine HTZ.out.mono ?_; rintro e w' ⟨rfl, hw⟩; obtain rfl := hw.symm)
            go_round
            case rel => exact ⟨x * 64 + t, i, by go_num, by go_num, by omega, HN.out⟩
            case measure => simp [intOf]
          · have htz := tz_any 18446744073709551615 (by omega) w HT.out
            have e0 : Lib.ctz 64 18446744073709551615 = 0 := ctz_uniq _ _ (by omega) (by decide) (fun j hj => by omega)
            rw [e0] at htz
            have hco := compl_eq 0 (by omega)
            have HTZ : Hid (Calls Ybad.prog 18 #[.int .u64 18446744073709551615] w fun e w' => e = .returned (.int .i64 0) ∧ w' = w) := htz
            have HN : Hid (s.From n ((x * 64) * 64 ^ i)) := by
              have hF := HF.out
              rw [Nat.pow_succ, Nat.mul_comm (64 ^ i) 64, ← Nat.mul_assoc] at hF
              exact hF
            have i2 : ¬ (x : Int) < (m : Int) := by omega
            have hco2 : bits .xor .u64 IntKind.u64.max 0 = 18446744073709551615 := hco
            clear hm haj hw htz hbl hco
            go_wp2_with (go_at_call 18; refine HTZ.out.mono ?_; rintro e w' ⟨rfl, hw⟩; obtain rfl := hw.symm)
            go_round
            case rel => exact ⟨x * 64, i, by go_num, by go_num, by omega, HN.out⟩
            case measure => simp [intOf]
end Go.Proofs.YbulkdhcgDoor
