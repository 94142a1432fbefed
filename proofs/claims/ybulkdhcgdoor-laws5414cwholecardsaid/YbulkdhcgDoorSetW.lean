/-
  countSet.set: the walk.
-/
import Derived.Test.YbulkdhcgDoorCSet2
import Derived.Test.YbulkdhcgDoorChars
namespace Go.Proofs.YbulkdhcgDoor
open Go.RowKit

theorem info109 : (Ybad.prog.info? 109).map (fun i => (i.zero, i.size, i.bytes)) = some (some (.slice none 0 0), 1, 24) := by kernel_rfl
theorem info24 : (Ybad.prog.info? 24).map (fun i => (i.zero, i.size, i.bytes)) = some (some (.int .u64 0), 1, 8) := by kernel_rfl

/-- what is held of the set while it is written: s0, x0, m0 as at the call. -/
structure SI (s0 : Lvs) (x0 m0 : Nat) (w : World) (C bd od : Nat) (U : Nat → Prop) (s : Lvs) (k x m : Nat) (v : Value) (lv : Nat → Value) (W : World) : Prop where
  ok : s.Ok
  kL : k ≤ s.L
  k2 : k ≤ 2
  x2 : x ≤ 2048
  m64 : m < 18446744073709551616
  L2 : s.L ≤ 64
  at' : CSAt s (fun _ => False) W C bd od v lv
  fr : CFr w W bd od U
  ub : ∀ g, Ub s.L v lv g → U g ∨ w.heap.size ≤ g
  h0 : k = 0 → x = x0 ∧ m = m0 ∧ ∀ y, s.bit 0 y = s0.bit 0 y
  h1 : ∀ j, k = j + 1 → (∀ y, s.bit 0 y = (s0.bit 0 y || (decide (y / 64 = x0) && m0.testBit (y % 64)))) ∧ ∀ b, b < 64 → m.testBit b = true → ∀ c, c < 64 → s.bit j (64 * (64 * x + b) + c) = true

theorem one_new (w : World) (v : Value) (T : TypeId) : ∀ j u, [v][j]? = some u → (w.alloc (.cells #[v] T)).cell? ((⟨w.heap.size, 0, none⟩ : Addr).add j) = some u :=
  World.news_of_block (cs := #[v]) (World.alloc_heap_new w _)

/-- one level more. -/
theorem SI.more {s0 : Lvs} {x0 m0 : Nat} {w : World} {C bd od : Nat} {U : Nat → Prop} {s : Lvs} {k x m : Nat} {v : Value} {lv : Nat → Value} {W W1 : World} {g cap : Nat} (h : SI s0 x0 m0 w C bd od U s k x m v lv W) (hbw : bd < w.heap.size) (hk : k = s.L) (o : Obj)
    (hg : (W.alloc o).grownBy W1 v.ownBlock) (ho : W1.ownsRow C 109 1 (.slice (some ⟨g, 0, none⟩) (s.L + 1) cap) (s.L + 1) ((List.range s.L).map lv ++ [.slice none 0 0])) (hl : v.ownBlock = some g ∨ g = W.heap.size + 1) :
    SI s0 x0 m0 w C bd od U s.more k x m (.slice (some ⟨g, 0, none⟩) (s.L + 1) cap) (fun j => if j = s.L then .slice none 0 0 else lv j) (W1.setCell ⟨bd, od, none⟩ (.slice (some ⟨g, 0, none⟩) (s.L + 1) cap)) := by
  have hC := h.at'.bdC
  have hsz := h.at'.size
  have hfs := h.fr.size
  have hat : CSAt s (fun _ => False) (W.alloc o) C bd od v lv := h.at'.grown (World.grownBy_alloc W o none) (fun r e => by cases e)
  refine ⟨h.ok.more h.L2, by unfold Lvs.more; simp only; omega, h.k2, h.x2, h.m64, by unfold Lvs.more; simp only; have := h.k2; omega, hat.more hg ho, ?_, fun q hq => ?_, fun e => ?_, fun j e => ?_⟩
  · refine CFr.setTop (CFr.grown ?_ ?_ hg (fun r e => ?_)) _
    · exact ⟨h.fr.os, h.fr.tape, h.fr.output, by rw [World.size_alloc]; omega, fun q hq h1 h2 => (Below.heap_alloc W o q (by omega)).trans (h.fr.blk q hq h1 h2), fun j hj => (World.cell?_of_block (w := W) (Below.heap_alloc W o bd (by omega))).trans (h.fr.cel j hj), fun j => (World.frozen?_of_block (w := W) (Below.heap_alloc W o bd (by omega))).trans (h.fr.frz j)⟩
    · exact hbw
    · exact ⟨by have := (h.at'.row.lt r e).1; omega, h.ub r (Or.inl e)⟩
  · rcases hq with hq | ⟨i, hi, hq⟩
    · have e : g = q := Option.some.inj hq
      rw [← e]
      rcases hl with hl | hl
      · exact h.ub g (Or.inl hl)
      · right; omega
    · have hi2 : i < s.L + 1 := hi
      by_cases e : i = s.L
      · simp only [if_pos e] at hq; cases hq
      · simp only [if_neg e] at hq; exact h.ub q (Or.inr ⟨i, by omega, hq⟩)
  · obtain ⟨a1, a2, a3⟩ := h.h0 e
    exact ⟨a1, a2, fun y => by rw [s.more_bit]; exact a3 y⟩
  · obtain ⟨a1, a2⟩ := h.h1 j e
    exact ⟨fun y => by rw [s.more_bit]; exact a1 y, fun b hb hm c hc => by rw [s.more_bit]; exact a2 b hb hm c hc⟩

/-- the words of level k while they are grown: val, n of them. -/
structure GI (w : World) (C bd od : Nat) (U : Nat → Prop) (s : Lvs) (k n : Nat) (v : Value) (lv : Nat → Value) (val : Value) (W : World) : Prop where
  own : W.ownsRow C 24 1 val n (wz s k n)
  ge : s.nw k ≤ n
  at' : CSAt s (fun i => i = k) W C bd od v lv
  fr : CFr w W bd od U
  ub : ∀ g, val.ownBlock = some g → (U g ∨ w.heap.size ≤ g)
  dj : ∀ g, val.ownBlock = some g → ∀ j, j < s.L → j ≠ k → (lv j).ownBlock ≠ some g
theorem GI.step {w : World} {C bd od : Nat} {U : Nat → Prop} {s : Lvs} {k n : Nat} {v : Value} {lv : Nat → Value} {val : Value} {W W1 : World} {g cap : Nat} (h : GI w C bd od U s k n v lv val W) (hbw : bd < w.heap.size) (o : Obj)
    (hg : (W.alloc o).grownBy W1 val.ownBlock) (ho : W1.ownsRow C 24 1 (.slice (some ⟨g, 0, none⟩) (n + 1) cap) (n + 1) (wz s k n ++ [.int .u64 0])) (hl : val.ownBlock = some g ∨ g = W.heap.size + 1) (hlt : ∀ j, j < s.L → j ≠ k → ∀ q, (lv j).ownBlock = some q → q < W.heap.size) :
    GI w C bd od U s k (n + 1) v lv (.slice (some ⟨g, 0, none⟩) (n + 1) cap) W1 := by
  have hC := h.at'.bdC
  have hsz := h.at'.size
  have hfs := h.fr.size
  have hat : CSAt s (fun i => i = k) (W.alloc o) C bd od v lv := h.at'.grown (World.grownBy_alloc W o none) (fun r e => by cases e)
  refine ⟨by rw [← wz_succ s h.ge]; exact ho, Nat.le_succ_of_le h.ge, hat.grown hg (fun r e => ⟨by have := (h.own.lt r e).1; omega, fun e2 => own_ne h.own h.at'.row (by decide) r e e2, fun i hi hx => h.dj r e i hi hx⟩), ?_, fun q hq => ?_, fun q hq j hj hjk e2 => ?_⟩
  · refine CFr.grown ?_ hbw hg (fun r e => ⟨by have := (h.own.lt r e).1; omega, h.ub r e⟩)
    exact ⟨h.fr.os, h.fr.tape, h.fr.output, by rw [World.size_alloc]; omega, fun q hq h1 h2 => (Below.heap_alloc W o q (by omega)).trans (h.fr.blk q hq h1 h2), fun j hj => (World.cell?_of_block (w := W) (Below.heap_alloc W o bd (by omega))).trans (h.fr.cel j hj), fun j => (World.frozen?_of_block (w := W) (Below.heap_alloc W o bd (by omega))).trans (h.fr.frz j)⟩
  · have e : g = q := Option.some.inj hq
    rw [← e]
    rcases hl with hl | hl
    · exact h.ub g hl
    · right; omega
  · have e : g = q := Option.some.inj hq
    rcases hl with hl | hl
    · exact h.dj q (by rw [← e]; exact hl) j hj hjk e2
    · have := hlt j hj hjk q e2; omega

theorem own_frozen {w : World} {C e n g cap : Nat} {xs : List Value} (h : w.ownsRow C e 1 (.slice (some ⟨g, 0, none⟩) n cap) n xs) (j : Nat) : w.frozen? ⟨g, j, none⟩ = false := by
  rcases h.2 with ⟨h1, _⟩ | ⟨g', cap', cur, h1, _, h2, _⟩
  · cases h1
  · cases h1; exact Lib.frozen_of_heap h2 j
theorem full_bit {v : Nat} (h : v = 18446744073709551615) {b : Nat} (hb : b < 64) : v.testBit b = true := by
  have := Nat.testBit_two_pow_sub_one 64 b
  rw [show 2 ^ 64 - 1 = 18446744073709551615 by decide] at this
  rw [h, this, decide_eq_true hb]

/-- the word is written: what follows of it. -/
theorem SI.upd {s0 : Lvs} {x0 m0 : Nat} {w : World} {C bd od : Nat} {U : Nat → Prop} {s : Lvs} {k x m : Nat} {v : Value} {lv : Nat → Value} {W : World} (h : SI s0 x0 m0 w C bd od U s k x m v lv W) (hm0 : ∀ b, m0.testBit b = true → 64 * x0 + b < 131072) :
    (s.upd k x m).Ok ∧ ∀ y, (s.upd k x m).bit 0 y = (s0.bit 0 y || (decide (y / 64 = x0) && m0.testBit (y % 64))) := by
  refine ⟨h.ok.upd h.kL (by have := h.k2; omega) h.x2 h.m64 (fun e b hb => ?_) (fun j e => (h.h1 j e).2), fun y => ?_⟩
  · obtain ⟨a1, a2, _⟩ := h.h0 e
    rw [a1]; exact hm0 b (by rw [← a2]; exact hb)
  · by_cases e : k = 0
    · subst e
      obtain ⟨a1, a2, a3⟩ := h.h0 rfl
      rw [Lvs.upd_bit, a3, a1, a2]
    · obtain ⟨j, rfl⟩ : ∃ j, k = j + 1 := ⟨k - 1, by omega⟩
      rw [s.upd_bit_ne h.kL (by omega)]
      exact (h.h1 j rfl).1 y

set_option maxRecDepth 100000 in
set_option maxHeartbeats 4000000 in
theorem set_any (s0 : Lvs) (x0 m0 : Nat) (w : World) (C bd od : Nat) (U : Nat → Prop) (v0 : Value) (lv0 : Nat → Value) (h : SI s0 x0 m0 w C bd od U s0 0 x0 m0 v0 lv0 w) (hm0 : ∀ b, m0.testBit b = true → 64 * x0 + b < 131072) :
    Calls Ybad.prog 13 #[.pointer (some ⟨bd, od, none⟩), .int .u64 x0, .int .u64 m0] w fun e w' => (∃ v, e = .returned v) ∧ ∃ s v lv, s.Ok ∧ s.L ≤ 64 ∧ (∀ y, s.bit 0 y = (s0.bit 0 y || (decide (y / 64 = x0) && m0.testBit (y % 64)))) ∧ CSAt s (fun _ => False) w' C bd od v lv ∧ CFr w w' bd od U ∧ ∀ g, Ub s.L v lv g → U g ∨ w.heap.size ≤ g := by
  have HM0 : Hid (∀ b, m0.testBit b = true → 64 * x0 + b < 131072) := hm0
  have H : Hid (SI s0 x0 m0 w C bd od U s0 0 x0 m0 v0 lv0 w) := h
  have hbw : bd < w.heap.size := Nat.lt_of_lt_of_le h.at'.bdC h.at'.size
  obtain ⟨i1, hi1, hz1, hz2, hz3⟩ := info_parts info109
  obtain ⟨i2, hi2, hy1, hy2, hy3⟩ := info_parts info24
  clear h hm0
  go_enter Ybad.func13, Ybad.ntmps13
  go_wp2
  go_loopw [1, 2, 6] (fun a b i wr => ∃ (s : Lvs) (k x m : Nat) (v : Value) (lv : Nat → Value), a = .int .u64 x ∧ b = .int .u64 m ∧ i = .int .i64 k ∧ SI s0 x0 m0 w C bd od U s k x m v lv wr) (fun _ _ i _ => 3 - (intOf i).toNat)
  case atStart => exact ⟨s0, 0, x0, m0, v0, lv0, rfl, rfl, rfl, H.out⟩
  case round =>
    obtain ⟨s, k, x, m, v, lv, rfl, rfl, rfl, hI⟩ := hrel
    have HI : Hid (SI s0 x0 m0 w C bd od U s k x m v lv wr) := hI
    have hk2 := hI.k2
    have hkL := hI.kL
    have hx2 := hI.x2
    have hL2 := hI.L2
    obtain ⟨av, cv, hv⟩ : ∃ a c, v = .slice a s.L c := by
      rcases hI.at'.row.2 with ⟨h1, h2⟩ | ⟨g, cap, cur, h1, _⟩
      · exact ⟨none, 0, by rw [h1, h2]⟩
      · exact ⟨_, _, h1⟩
    have c1 : wr.cell? ⟨bd, od, none⟩ = some (.slice av s.L cv) := by rw [← hv]; exact hI.at'.top
    have f1 := hI.at'.fz
    have hbr : bd < wr.heap.size := Nat.lt_of_lt_of_le hI.at'.bdC hI.at'.size
    clear hI
    go_upto_if 16 with fail
    go_cut [17] from 14 to 25 (fun _ wd => ∃ s' v' lv', SI s0 x0 m0 w C bd od U s' k x m v' lv' wd ∧ k < s'.L)
    case first =>
      by_cases hkl : k = s.L
      · have e1 : ((k : Int) == (s.L : Int)) = true := by rw [beq_iff_eq]; omega
        have hrow := HI.out.at'.row
        rw [hv] at hrow
        have HKL : Hid (k = s.L) := hkl
        clear hkl
        go_wp2_with (at_builtin; refine wpList_append_lies _ rfl _ _ 55 rfl C 109 i1 (.slice none 0 0) 1 24 Ybad.underlying55 hi1 hz1 hz2 hz3 rfl (by decide) _ _ _ rfl (hrow.alloc _) ⟨wr.heap.size, 0, none⟩ 1 1 [.slice none 0 0] rfl rfl (one_new _ _ _) (fun u hu => by rw [List.mem_singleton.1 hu]; rfl) (by decide) ?c3 ?c4 ?c5 (wr.heap.size + 1) (by simp) ?_)
        case c3 => unfold maxLen; omega
        case c4 => omega
        case c5 => rw [World.size_alloc]; have := HI.out.at'.size; omega
        intro g cap W1 hown hgrow hat hlt
        have hSI := HI.out.more hbw HKL.out _ (by rw [hv]; exact hgrow) hown (by rw [hv]; exact hat)
        have HSI : Hid (SI s0 x0 m0 w C bd od U s.more k x m (.slice (some ⟨g, 0, none⟩) (s.L + 1) cap) (fun j => if j = s.L then .slice none 0 0 else lv j) (W1.setCell ⟨bd, od, none⟩ (.slice (some ⟨g, 0, none⟩) (s.L + 1) cap))) := hSI
        have hbd : W1.heap[bd]? = wr.heap[bd]? := (hgrow.block bd (by rw [World.size_alloc]; omega) (fun e => by have := (hrow.lt bd e.symm).1; have := HI.out.at'.bdC; omega)).trans (Below.heap_alloc wr _ bd hbr)
        have d1 : W1.cell? ⟨bd, od, none⟩ = some (.slice av s.L cv) := (World.cell?_of_block (w := wr) hbd).trans c1
        have g1 : W1.frozen? ⟨bd, od, none⟩ = false := (World.frozen?_of_block (w := wr) hbd).trans f1
        clear hSI hown hgrow hat hrow hbd
        go_wp2
        go_meet
        case rel => exact ⟨_, _, _, HSI.out, by unfold Lvs.more; simp only; have := HKL.out; omega⟩
      · have e1 : ((k : Int) == (s.L : Int)) = false := by rw [beq_eq_false_iff_ne]; omega
        go_wp2
        go_meet
        case rel => exact ⟨s, v, lv, HI.out, by omega⟩
    case rest =>
      clear HI c1 f1 hbr hv hkL hL2
      obtain ⟨s, v, lv, hI, hkl⟩ := hcut
      obtain ⟨wr, rfl⟩ : ∃ wr, wr = wc := ⟨_, rfl⟩
      have HI : Hid (SI s0 x0 m0 w C bd od U s k x m v lv wr) := hI
      obtain ⟨gv, capv, hv, hgC, hgl⟩ := hI.at'.row.form (by omega)
      obtain ⟨ak, ck, hlk⟩ : ∃ a c, lv k = .slice a (s.nw k) c := by
        rcases (hI.at'.lev k hkl (fun e => e)).2 with ⟨h1, h2⟩ | ⟨g, cap, cur, h1, _⟩
        · exact ⟨none, 0, by rw [h1, h2]⟩
        · exact ⟨_, _, h1⟩
      have c1 : wr.cell? ⟨bd, od, none⟩ = some (.slice (some ⟨gv, 0, none⟩) s.L capv) := by rw [← hv]; exact hI.at'.top
      have c2 : wr.cell? ⟨gv, k, none⟩ = some (.slice ak (s.nw k) ck) := by
        have := hI.at'.row.cells (g := gv) (by rw [hv]; rfl) k (lv k) (by simp [hkl])
        rw [Addr.add_mid, hlk] at this
        simpa using this
      have hnw := hI.ok.nw k
      have hki : (k : Int) < (s.L : Int) := by omega
      have HGI : Hid (GI w C bd od U s k (s.nw k) v lv (.slice ak (s.nw k) ck) wr) :=
        ⟨by rw [wz_start s hkl, ← hlk]; exact hI.at'.lev k hkl (fun e => e), Nat.le_refl _, ⟨hI.at'.top, hI.at'.fz, hI.at'.bdC, hI.at'.size, hI.at'.row, fun i hi _ => hI.at'.lev i hi (fun e => e), fun i j hi hj hij _ _ => hI.at'.dis i j hi hj hij (fun e => e) (fun e => e)⟩, hI.fr,
          fun g e => hI.ub g (Or.inr ⟨k, hkl, by rw [hlk]; exact e⟩), fun g e j hj hjk => hI.at'.dis k j hkl hj (fun e => hjk e.symm) (fun e => e) (fun e => e) g (by rw [hlk]; exact e)⟩
      obtain ⟨N, hN⟩ : ∃ N, N = s.nw k := ⟨_, rfl⟩
      have HN : Hid (N = s.nw k) := hN
      rw [← hN] at c2 hnw HGI
      clear hI hN
      go_wp2
      clear c1 c2
      go_loopw [7] (fun a wr2 => ∃ (n c' : Nat) (u : Option Addr), a = .slice u n c' ∧ n ≤ max N (x + 1) ∧ GI w C bd od U s k n v lv (.slice u n c') wr2) (fun a _ => x + 1 - lenV a)
      case atStart => exact ⟨N, ck, ak, rfl, by omega, HGI.out⟩
      case round =>
        clear HGI
        obtain ⟨n, c', u, rfl, hn, hg⟩ := hrel
        have HG : Hid (GI w C bd od U s k n v lv (.slice u n c') wr) := hg
        have hgs := hg.at'.size
        have hown := hg.own
        clear hg
        by_cases hnx : n ≤ x
        · have e1 : (n : Int) ≤ (x : Int) := by omega
          go_wp2_with (at_builtin; refine wpList_append_lies _ rfl _ _ 109 rfl C 24 i2 (.int .u64 0) 1 8 Ybad.underlying109 hi2 hy1 hy2 hy3 rfl (by decide) _ _ _ rfl (hown.alloc _) ⟨wr.heap.size, 0, none⟩ 1 1 [.int .u64 0] rfl rfl (one_new _ _ _) (fun u hu => by rw [List.mem_singleton.1 hu]; rfl) (by decide) ?c3 ?c4 ?c5 (wr.heap.size + 1) (by simp) ?_)
          case c3 => unfold maxLen; omega
          case c4 => omega
          case c5 => rw [World.size_alloc]; omega
          intro g cap W1 hown1 hgrow hat hlt
          have hst := HG.out.step hbw _ hgrow hown1 hat (fun j hj hjk q hq => (HG.out.at'.lev j hj hjk).lt q hq |>.2)
          have HST : Hid (GI w C bd od U s k (n + 1) v lv (.slice (some ⟨g, 0, none⟩) (n + 1) cap) W1) := hst
          clear hst hown1 hgrow hat hlt hown
          go_wp2
          go_roundw
          case rel => exact ⟨n + 1, cap, some ⟨g, 0, none⟩, rfl, by omega, HST.out⟩
          case measure => show x + 1 - (n + 1) < x + 1 - n; omega
        · have e1 : ¬ (n : Int) ≤ (x : Int) := by omega
          obtain rfl : n = max N (x + 1) := by have := HG.out.ge; have := HN.out; omega
          obtain ⟨g, capu, hgu, _, hgl2⟩ := hown.form (by omega)
          obtain ⟨hu1, hc1⟩ : u = some ⟨g, 0, none⟩ ∧ c' = capu := by cases hgu; exact ⟨rfl, rfl⟩
          subst hu1 hc1
          have hrow := HG.out.at'.row
          rw [hv] at hrow
          have hne : gv ≠ g := fun e => own_ne hrow hown (by decide) gv rfl (by rw [e]; rfl)
          have c1 : wr.cell? ⟨bd, od, none⟩ = some (.slice (some ⟨gv, 0, none⟩) s.L capv) := by rw [← hv]; exact HG.out.at'.top
          have c2 : wr.cell? ⟨gv, k, none⟩ = some (.slice ak N ck) := by
            have := hrow.cells (g := gv) rfl k (lv k) (by simp [hkl])
            rw [Addr.add_mid, hlk, ← HN.out] at this
            simpa using this
          have f2 := own_frozen hrow k
          have c3 : wr.cell? ⟨g, x, none⟩ = some (.int .u64 (s.old k x : Nat)) := by
            have := hown.cells (g := g) rfl x _ (wz_get s (by omega))
            rw [Addr.add_mid] at this
            simpa using this
          have f3 := own_frozen hown x
          have hol := Lvs.old_lt HI.out.ok k x
          have hor := bits_or_u64_nat (s.old k x) m hol HI.out.m64
          have hup := HI.out.upd HM0.out
          obtain ⟨z, hz⟩ : ∃ z, z = s.old k x ||| m := ⟨_, rfl⟩
          have HZ : Hid (z = s.old k x ||| m) := hz
          rw [← hz] at hor
          have hzl : z < 18446744073709551616 := by rw [hz]; exact or_lt64 hol HI.out.m64
          have hbg : bd ≠ g := by have := (hown.lt g rfl).1; have := HG.out.at'.bdC; omega
          have hbv : bd ≠ gv := by have := HG.out.at'.bdC; omega
          have hxn : (x : Int) < ((max N (x + 1) : Nat) : Int) := by omega
          have HUP : Hid ((s.upd k x m).Ok ∧ ∀ y, (s.upd k x m).bit 0 y = (s0.bit 0 y || (decide (y / 64 = x0) && m0.testBit (y % 64)))) := hup
          have HAT : Hid (CSAt (s.upd k x m) (fun _ => False) ((wr.setCell ⟨g, x, none⟩ (.int .u64 (z : Nat))).setCell ⟨gv, k, none⟩ (.slice (some ⟨g, 0, none⟩) (max N (x + 1)) c')) C bd od v (fun j => if j = k then .slice (some ⟨g, 0, none⟩) (max N (x + 1)) c' else lv j)) := by
            rw [hz, hv]
            have e : max N (x + 1) = max (s.nw k) (x + 1) := by rw [HN.out]
            have h1 := HG.out.at'
            rw [hv] at h1
            rw [e] at hown ⊢
            exact h1.done hkl hown (fun j hj hjk => HG.out.dj g rfl j hj hjk)
          have HFR : Hid (CFr w ((wr.setCell ⟨g, x, none⟩ (.int .u64 (z : Nat))).setCell ⟨gv, k, none⟩ (.slice (some ⟨g, 0, none⟩) (max N (x + 1)) c')) bd od U) :=
            ((HG.out.fr.setCell hbw g x _ ⟨fun e => hbg e.symm, HG.out.ub g rfl⟩).setCell hbw gv k _ ⟨fun e => hbv e.symm, HI.out.ub gv (Or.inl (by rw [hv]; rfl))⟩)
          have HUB : Hid (∀ q, Ub (s.upd k x m).L v (fun j => if j = k then .slice (some ⟨g, 0, none⟩) (max N (x + 1)) c' else lv j) q → U q ∨ w.heap.size ≤ q) := by
            intro q hq
            have eL : (s.upd k x m).L = s.L := by unfold Lvs.upd; simp only; omega
            rcases hq with hq | ⟨i, hi, hq⟩
            · exact HI.out.ub q (Or.inl hq)
            · rw [eL] at hi
              by_cases e : i = k
              · simp only [if_pos e] at hq
                exact HG.out.ub q hq
              · simp only [if_neg e] at hq
                exact HI.out.ub q (Or.inr ⟨i, hi, hq⟩)
          have HHO : Hid (s.old k x < 18446744073709551616 ∧ z < 18446744073709551616) := ⟨hol, hzl⟩
          clear hown hrow hup hz hol hzl hgl2 hgu
          by_cases hfull : z = 18446744073709551615
          · have hb : ((z : Int) != 18446744073709551615) = false := by rw [hfull]; decide
            have HFU : Hid (∀ b, b < 64 → (s.upd k x m).bit k (64 * x + b) = true) := by
              intro b hb2
              have h1 := full_bit hfull hb2
              rw [HZ.out, Nat.testBit_or, Bool.or_eq_true] at h1
              rw [Lvs.upd_bit, s.bit_old, show (64 * x + b) / 64 = x by omega, show (64 * x + b) % 64 = b by omega, Bool.or_eq_true]
              rcases h1 with h1 | h1
              · exact Or.inl h1
              · right; rw [h1]; simp
            have hk1 := HUP.out.1.full HFU.out
            have HLU : Hid ((s.upd k x m).L = s.L) := by
              have h1 : (s.upd k x m).L = s.L := by unfold Lvs.upd; simp only; omega
              exact h1
            have hwp := wrap_pow (k := x % 64) (by omega)
            have HNX : Hid (SI s0 x0 m0 w C bd od U (s.upd k x m) (k + 1) (x / 64) (2 ^ (x % 64)) v (fun j => if j = k then .slice (some ⟨g, 0, none⟩) (max N (x + 1)) c' else lv j) ((wr.setCell ⟨g, x, none⟩ (.int .u64 (z : Nat))).setCell ⟨gv, k, none⟩ (.slice (some ⟨g, 0, none⟩) (max N (x + 1)) c'))) :=
              ⟨HUP.out.1, by rw [HLU.out]; omega, by omega, by omega, pow_lt64 (by omega), by rw [HLU.out]; exact HI.out.L2, HAT.out, HFR.out, HUB.out, fun e => by omega, fun j e => by
                obtain rfl : k = j := by omega
                refine ⟨HUP.out.2, fun b hb2 hm c hc => ?_⟩
                have hbx : x % 64 = b := by
                  rw [Nat.testBit_two_pow] at hm
                  exact of_decide_eq_true hm
                have := HFU.out c hc
                rw [show 64 * (64 * (x / 64) + b) + c = 64 * x + c by omega]
                exact this⟩
            subst hfull
            go_wp2
            go_roundw
            case rel => exact ⟨_, k + 1, x / 64, 2 ^ (x % 64), _, _, by go_num, by rw [hwp], by go_num, HNX.out⟩
            case measure => simp [intOf]; omega
          · have hb : ((z : Int) != 18446744073709551615) = true := by rw [bne_iff_ne]; omega
            go_wp2
            refine bodyPost_ret (results_none rfl _ _ _) rfl ?_
            exact ⟨⟨_, rfl⟩, _, HUP.out.1, by have := HI.out.L2; have e : (s.upd k x m).L = s.L := (by unfold Lvs.upd; simp only; omega); omega, HUP.out.2, _, _, HAT.out, HFR.out, HUB.out⟩
end Go.Proofs.YbulkdhcgDoor
