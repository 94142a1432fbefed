/-
  countSet.add.
-/
import Derived.Test.YbulkdhcgDoorSetW
namespace Go.Proofs.YbulkdhcgDoor
open Go.RowKit

def addrOf : Value → Option Addr
  | .slice a _ _ => a
  | _ => none
def capOf : Value → Nat
  | .slice _ _ c => c
  | _ => 0
theorem own_slice {w : World} {C e n : Nat} {v : Value} {xs : List Value} (h : w.ownsRow C e 1 v n xs) : v = .slice (addrOf v) n (capOf v) := by
  rcases h.2 with ⟨h1, h2⟩ | ⟨g, cap, cur, h1, _⟩
  · rw [h1, h2]; rfl
  · rw [h1]; rfl
theorem own_addr {w : World} {C e n : Nat} {v : Value} {xs : List Value} (h : w.ownsRow C e 1 v n xs) (hn : 0 < n) : ∃ g, addrOf v = some ⟨g, 0, none⟩ ∧ v.ownBlock = some g := by
  obtain ⟨g, cap, hv, _⟩ := h.form hn
  exact ⟨g, by rw [hv]; rfl, by rw [hv]; rfl⟩
theorem own_cell {w : World} {C e n : Nat} {v : Value} {xs : List Value} (h : w.ownsRow C e 1 v n xs) {g j : Nat} {u : Value} (hg : addrOf v = some ⟨g, 0, none⟩) (hj : xs[j]? = some u) : w.cell? ⟨g, j, none⟩ = some u := by
  have e : v.ownBlock = some g := by
    rw [own_slice h, hg]; rfl
  have := h.cells (g := g) e j u hj
  rw [Addr.add_mid] at this
  simpa using this
/-- the set, as next and has read it. -/
theorem CSAt.read {s : Lvs} {w : World} {C bd od : Nat} {v : Value} {lv : Nat → Value} (h : CSAt s (fun _ => False) w C bd od v lv) (hs : s.Ok) : s.At w bd od (addrOf v) (capOf v) (fun i => addrOf (lv i)) (fun i => capOf (lv i)) := by
  refine ⟨by rw [h.top, ← own_slice h.row], fun hL => ?_, fun bl hbl i hi => ?_, fun i hi => ⟨fun hn => ?_, fun j hj b hb => ?_, hs.lt i⟩⟩
  · obtain ⟨g, h1, _⟩ := own_addr h.row hL
    exact ⟨g, h1⟩
  · rw [own_cell h.row hbl (u := lv i) (by simp [hi])]
    exact congrArg some (own_slice (h.lev i hi (fun e => e)))
  · obtain ⟨g, h1, _⟩ := own_addr (h.lev i hi (fun e => e)) hn
    exact ⟨g, h1⟩
  · exact own_cell (h.lev i hi (fun e => e)) hb (by unfold wl; simp [hj])

theorem CFr.comp {w W W' : World} {bd od : Nat} {U : Nat → Prop} (h : CFr w W bd od U) (k : CFr W W' bd od (fun g => U g ∨ w.heap.size ≤ g)) : CFr w W' bd od U :=
  ⟨k.os.trans h.os, k.tape.trans h.tape, k.output.trans h.output, Nat.le_trans h.size k.size, fun q hq h1 h2 => (k.blk q (Nat.lt_of_lt_of_le hq h.size) h1 (fun e => e.elim h2 (fun e => by omega))).trans (h.blk q hq h1 h2), fun j hj => (k.cel j hj).trans (h.cel j hj), fun j => (k.frz j).trans (h.frz j)⟩

theorem mask_eq {d r : Nat} (hd : d ≤ 64) (_hr : r + d ≤ 64) : (18446744073709551615 / 2 ^ (64 - d)) * 2 ^ r = tk (r + d) r := by
  rw [max_shift hd]
  unfold tk
  rw [Nat.sub_mul, ← Nat.pow_add, Nat.pow_zero, Nat.one_mul, Nat.add_comm d r]

/-- what is held while counts are added. -/
structure AI (s0 : Lvs) (lo hi : Nat) (w : World) (C bd od : Nat) (U : Nat → Prop) (s : Lvs) (n : Nat) (v : Value) (lv : Nat → Value) (W : World) : Prop where
  ok : s.Ok
  L2 : s.L ≤ 64
  at' : CSAt s (fun _ => False) W C bd od v lv
  fr : CFr w W bd od U
  ub : ∀ g, Ub s.L v lv g → U g ∨ w.heap.size ≤ g
  b1 : ∀ y, s.bit 0 y = true → s0.bit 0 y = true ∨ (lo ≤ y ∧ y < hi)
  b2 : ∀ y, s0.bit 0 y = true → s.bit 0 y = true
  b3 : ∀ y, lo ≤ y → y < n → y < hi → s.bit 0 y = true
  n1 : lo ≤ n
  n2 : n ≤ 131072
theorem AI.next {s0 : Lvs} {lo hi : Nat} {w : World} {C bd od : Nat} {U : Nat → Prop} {s : Lvs} {n k : Nat} {v : Value} {lv : Nat → Value} {W : World} (h : AI s0 lo hi w C bd od U s n v lv W) (hf : s.From n k) : AI s0 lo hi w C bd od U s k v lv W :=
  ⟨h.ok, h.L2, h.at', h.fr, h.ub, h.b1, h.b2, fun y h1 h2 h3 => by
    by_cases e : y < n
    · exact h.b3 y h1 e h3
    · exact hf.2 y (by omega) h2, Nat.le_trans h.n1 hf.1, hf.le h.ok h.n2⟩

/-- what add leaves: the set reads as T. -/
def AddPost (T : Nat → Bool) (w : World) (C bd od : Nat) (U : Nat → Prop) (w' : World) : Prop :=
  ∃ s v lv, Lvs.Ok s ∧ s.L ≤ 64 ∧ (∀ y, s.bit 0 y = T y) ∧ CSAt s (fun _ => False) w' C bd od v lv ∧ CFr w w' bd od U ∧ ∀ g, Ub s.L v lv g → U g ∨ w.heap.size ≤ g

theorem AI.put {s0 : Lvs} {lo hi : Nat} {w : World} {C bd od : Nat} {U : Nat → Prop} {s s2 : Lvs} {n d : Nat} {v v2 : Value} {lv lv2 : Nat → Value} {W W2 : World} (h : AI s0 lo hi w C bd od U s n v lv W) (hd : n % 64 + d ≤ 64) (hnd : n + d ≤ hi) (hhi : hi ≤ 131072)
    (ok : s2.Ok) (L2 : s2.L ≤ 64) (hb : ∀ y, s2.bit 0 y = (s.bit 0 y || (decide (y / 64 = n / 64) && (tk (n % 64 + d) (n % 64)).testBit (y % 64)))) (hat : CSAt s2 (fun _ => False) W2 C bd od v2 lv2) (hfr : CFr W W2 bd od (fun g => U g ∨ w.heap.size ≤ g))
    (hub : ∀ g, Ub s2.L v2 lv2 g → (U g ∨ w.heap.size ≤ g) ∨ W.heap.size ≤ g) : AI s0 lo hi w C bd od U s2 (n + d) v2 lv2 W2 := by
  have hbit : ∀ y, s2.bit 0 y = (s.bit 0 y || decide (n ≤ y ∧ y < n + d)) := fun y => by
    rw [hb y, tk_bit (by omega)]
    congr 1
    by_cases h1 : n ≤ y ∧ y < n + d
    · rw [decide_eq_true h1, decide_eq_true (by omega : y / 64 = n / 64), decide_eq_true (by omega : n % 64 ≤ y % 64 ∧ y % 64 < n % 64 + d)]; rfl
    · rw [decide_eq_false h1]
      by_cases h2 : y / 64 = n / 64
      · rw [decide_eq_false (by omega : ¬ (n % 64 ≤ y % 64 ∧ y % 64 < n % 64 + d))]; simp
      · rw [decide_eq_false h2]; rfl
  refine ⟨ok, L2, hat, h.fr.comp hfr, fun g hg => ?_, fun y hy => ?_, fun y hy => ?_, fun y h1 h2 h3 => ?_, by have := h.n1; omega, by omega⟩
  · rcases hub g hg with h1 | h1
    · exact h1
    · right; have := h.fr.size; omega
  · rw [hbit, Bool.or_eq_true] at hy
    rcases hy with hy | hy
    · exact h.b1 y hy
    · have := of_decide_eq_true hy
      right; have := h.n1; omega
  · rw [hbit, h.b2 y hy]; rfl
  · rw [hbit]
    by_cases e : y < n
    · rw [h.b3 y h1 e h3]; rfl
    · rw [decide_eq_true (by omega : n ≤ y ∧ y < n + d), Bool.or_true]

theorem add_end {n hi d : Nat} (hd : (if hi ≤ (n / 64 + 1) * 64 then hi else (n / 64 + 1) * 64) = n + d) : (if ((n : Int) / 64 + 1) * 64 < (hi : Int) then ((n : Int) / 64 + 1) * 64 else (hi : Int)) = ((n + d : Nat) : Int) := by
  split at hd <;> split <;> omega
theorem add_mask {n hi d : Nat} (hd : (if hi ≤ (n / 64 + 1) * 64 then hi else (n / 64 + 1) * 64) = n + d) (hd2 : n % 64 + d ≤ 64) :
    IntKind.u64.wrap (18446744073709551615 / 2 ^ (64 - ((if ((n : Int) / 64 + 1) * 64 < (hi : Int) then ((n : Int) / 64 + 1) * 64 else (hi : Int)) - (n : Int))).toNat * 2 ^ (n % 64)) = ((tk (n % 64 + d) (n % 64) : Nat) : Int) := by
  rw [add_end hd]
  have e : (64 - (((n + d : Nat) : Int) - (n : Int))).toNat = 64 - d := by omega
  rw [e, ← mask_eq (d := d) (r := n % 64) (by omega) hd2]
  have hl := tk_lt (c := n % 64 + d) (i := n % 64) hd2
  rw [← mask_eq (d := d) (r := n % 64) (by omega) hd2] at hl
  have e2 : ((18446744073709551615 : Int) / 2 ^ (64 - d) * 2 ^ (n % 64)) = ((18446744073709551615 / 2 ^ (64 - d) * 2 ^ (n % 64) : Nat) : Int) := by
    rw [Int.natCast_mul, Int.natCast_ediv, Int.natCast_pow, Int.natCast_pow]; rfl
  rw [e2]
  exact wu64 _ ⟨Int.natCast_nonneg _, by omega⟩

/-- the counts of T, and those of lo up to hi. -/
def addT (T : Nat → Bool) (lo hi : Nat) (y : Nat) : Bool := T y || decide (lo ≤ y ∧ y < hi)
set_option maxRecDepth 100000 in
set_option maxHeartbeats 4000000 in
theorem add_any (s0 : Lvs) (lo hi : Nat) (w : World) (C bd od : Nat) (U : Nat → Prop) (v0 : Value) (lv0 : Nat → Value) (hT : Tab w) (h0U : 0 < bd ∧ ¬ U 0) (hlo : lo ≤ 65535) (hhi : hi ≤ 131072) (h : AI s0 lo hi w C bd od U s0 lo v0 lv0 w) :
    Calls Ybad.prog 7 #[.pointer (some ⟨bd, od, none⟩), .int .u32 lo, .int .u32 hi] w fun e w' => (∃ v, e = .returned v) ∧ AddPost (addT (s0.bit 0) lo hi) w C bd od U w' := by
  have HT : Hid (Tab w) := hT
  have H0 : Hid (0 < bd ∧ ¬ U 0) := h0U
  have H : Hid (AI s0 lo hi w C bd od U s0 lo v0 lv0 w) := h
  have hbw : bd < w.heap.size := Nat.lt_of_lt_of_le h.at'.bdC h.at'.size
  have hnx := next_any s0 h.ok bd od lo _ _ _ _ w hT (h.at'.read h.ok) (by omega)
  have hTab : ∀ W, CFr w W bd od U → Tab W := fun W hf j hj => (World.cell?_of_block (w := w) (hf.blk 0 (by have := h0U.1; omega) (by have := h0U.1; omega) h0U.2)).trans (hT j hj)
  have HTab : Hid (∀ W, CFr w W bd od U → Tab W) := hTab
  have HNX : Hid (Calls Ybad.prog 12 #[.pointer (some ⟨bd, od, none⟩), .int .u32 lo] w fun e w' => (∃ k : Nat, e = .returned (.int .u32 k) ∧ s0.From lo k) ∧ w' = w) := hnx
  clear hT h hnx hTab h0U
  go_enter Ybad.func7, Ybad.ntmps7
  go_wp2_with (go_at_call 12; refine HNX.out.mono ?_; rintro e w' ⟨⟨k, rfl, hk⟩, hw⟩; obtain rfl := hw.symm)
  have HA : Hid (AI s0 lo hi w C bd od U s0 k v0 lv0 w) := H.out.next hk
  clear hk H
  go_loopw [6] (fun a wr => ∃ (n : Nat) (s : Lvs) (v : Value) (lv : Nat → Value), a = .int .u32 n ∧ AI s0 lo hi w C bd od U s n v lv wr) (fun a _ => hi - (intOf a).toNat)
  case atStart => exact ⟨k, s0, v0, lv0, rfl, HA.out⟩
  case round =>
    clear HA
    obtain ⟨n, s, v, lv, rfl, hI⟩ := hrel
    have HI : Hid (AI s0 lo hi w C bd od U s n v lv wr) := hI
    have hn2 := hI.n2
    clear hI
    by_cases hnh : n < hi
    · have e1 : (n : Int) < (hi : Int) := by omega
      obtain ⟨E, hE⟩ : ∃ E, E = if hi ≤ (n / 64 + 1) * 64 then hi else (n / 64 + 1) * 64 := ⟨_, rfl⟩
      obtain ⟨d, hd⟩ : ∃ d, E = n + d := ⟨E - n, by rw [hE]; split <;> omega⟩
      have hd1 : 1 ≤ d := by rw [hE] at hd; split at hd <;> omega
      have hd2 : n % 64 + d ≤ 64 := by rw [hE] at hd; split at hd <;> omega
      have hEh : n + d ≤ hi := by rw [hE] at hd; split at hd <;> omega
      have hE' : (if hi ≤ (n / 64 + 1) * 64 then hi else (n / 64 + 1) * 64) = n + d := hE.symm.trans hd
      have hEnd := add_end hE'
      have hMask := add_mask hE' hd2
      have hset := set_any s (n / 64) (tk (n % 64 + d) (n % 64)) wr C bd od (fun g => U g ∨ w.heap.size ≤ g) v lv
        ⟨HI.out.ok, Nat.zero_le _, by omega, by omega, tk_lt hd2, HI.out.L2, HI.out.at', CFr.refl _ _ _ _, fun g hg => Or.inl (HI.out.ub g hg), fun _ => ⟨rfl, rfl, fun _ => rfl⟩, fun j e => by omega⟩
        (fun b hb => by rw [tk_bit (by omega)] at hb; have := of_decide_eq_true hb; omega)
      have HSET : Hid _ := hset
      have HEnd : Hid _ := hEnd
      have HMask : Hid _ := hMask
      clear hset hEnd hMask hE' hE hd
      go_wp2_with (go_at_call 13; (rw [HMask.out, (by omega : (n : Int) / 64 = ((n / 64 : Nat) : Int))]; refine Calls.mono HSET.out ?_; rintro e w' ⟨⟨u, rfl⟩, s2, v2, lv2, k1, k2, k3, k4, k5, k6⟩))
      all_goals
        clear HSET HMask
        have HI2 := HI.out.put hd2 hEh hhi k1 k2 k3 k4 k5 k6
        clear HI k1 k2 k3 k4 k5 k6
      · have eN : ((n : Int) / 64 + 1) * 64 = ((n + d : Nat) : Int) := by have := HEnd.out; rw [if_pos h] at this; exact this
        rw [eN]
        clear eN
        refine Calls.mono (next_any s2 HI2.ok bd od _ _ _ _ _ w' (HTab.out _ HI2.fr) (HI2.at'.read HI2.ok) HI2.n2) ?_
        rintro e w'' ⟨⟨k', rfl, hk'⟩, hw⟩
        obtain rfl := hw.symm
        have HA : Hid (AI s0 lo hi w C bd od U s2 k' v2 lv2 w') := HI2.next hk'
        have hk2 : n < k' := by have := hk'.1; omega
        clear HI2 hk' HEnd
        go_wp2
        go_roundw
        case rel => exact ⟨k', s2, v2, lv2, rfl, HA.out⟩
        case measure => show hi - k' < hi - n; omega
      · have eN : n + d = hi := by have := HEnd.out; rw [if_neg (by omega)] at this; omega
        rw [eN] at HI2
        clear eN
        refine Calls.mono (next_any s2 HI2.ok bd od _ _ _ _ _ w' (HTab.out _ HI2.fr) (HI2.at'.read HI2.ok) HI2.n2) ?_
        rintro e w'' ⟨⟨k', rfl, hk'⟩, hw⟩
        obtain rfl := hw.symm
        have HA : Hid (AI s0 lo hi w C bd od U s2 k' v2 lv2 w') := HI2.next hk'
        have hk2 : n < k' := by have := hk'.1; omega
        clear HI2 hk' HEnd
        go_wp2
        go_roundw
        case rel => exact ⟨k', s2, v2, lv2, rfl, HA.out⟩
        case measure => show hi - k' < hi - n; omega
    · have e1 : ¬ (n : Int) < (hi : Int) := by omega
      go_wp2
      go_end0
      refine ⟨⟨_, rfl⟩, s, v, lv, HI.out.ok, HI.out.L2, fun y => ?_, HI.out.at', HI.out.fr, HI.out.ub⟩
      have b1 := HI.out.b1 y
      have b2 := HI.out.b2 y
      have b3 := HI.out.b3 y
      unfold addT
      by_cases hy : lo ≤ y ∧ y < hi
      · rw [b3 hy.1 (by omega) hy.2, decide_eq_true hy]; simp
      · rw [decide_eq_false hy, Bool.or_false]
        cases h1 : s.bit 0 y
        · cases h2 : s0.bit 0 y
          · rfl
          · rw [b2 h2] at h1; cases h1
        · rcases b1 h1 with h3 | h3
          · exact h3.symm
          · exact absurd h3 hy
end Go.Proofs.YbulkdhcgDoor
