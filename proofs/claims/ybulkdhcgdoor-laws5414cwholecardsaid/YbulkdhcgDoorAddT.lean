/-
  charText.add at a fresh charText: the walk.
-/
import Derived.Test.YbulkdhcgDoorAddL
namespace Go.Proofs.YbulkdhcgDoor
open Go.RowKit

theorem st_drop (l : List UInt8) {i : Nat} (h : i ≤ l.length) (W : World) : (Instr.slice 9 (.string (st l)) (some (.int .i64 i)) none none).run Ybad.prog W = .ok (.string (st (l.drop i))) W := by
  rw [run_slice_string_l W 9 (st l) Ybad.underlying9 .i64 _ (by omega) (by rw [st_size]; omega)]
  congr 2
  have e : ((i : Int)).toNat = i := by omega
  rw [e, st_size]
  unfold st
  apply ByteArray.ext
  rw [ByteArray.data_extract]
  apply Array.ext'
  simp only [List.extract_eq_take_drop, Array.toList_extract]
  rw [List.take_of_length_le (by rw [List.length_drop]; exact Nat.le_refl _)]

theorem AD.drewN {w : World} {ba oa : Nat} {off : Nat → Nat} {n q : Nat} {mn : Nat → Nat} {mw : Nat → Bool} {g cap : Nat} {W : World} (h : AD w ba oa off n q mn mw g cap W) (k : Nat) : AD w ba oa off n q mn mw g cap (W.drewN k) :=
  ⟨h.own, h.c1, h.c2, h.c3, h.c4, ⟨h.fr.os, h.fr.tape, h.fr.output, h.fr.size, h.fr.blk, h.fr.cel, h.fr.frz⟩⟩

set_option maxRecDepth 100000 in
set_option maxHeartbeats 4000000 in
theorem addT_any (l : List UInt8) (off : Nat → Nat) (N : Nat) (w : World) (ba oa : Nat) (ho : Offs (yo l) off N) (hl : off N = l.length) (hN : N ≤ 16384) (hN1 : 1 ≤ N) (hb : off N ≤ 65536) (hba : ba < w.heap.size)
    (c1 : w.cell? ⟨ba, oa + 1, none⟩ = some (.slice none 0 0)) (c2 : w.cell? ⟨ba, oa + 2, none⟩ = some (.int .i64 0)) (c3 : w.cell? ⟨ba, oa + 3, none⟩ = some (.int .u32 0)) (c4 : w.cell? ⟨ba, oa + 4, none⟩ = some (.bool false)) (hf : ∀ j, w.frozen? ⟨ba, j, none⟩ = false) :
    Calls Ybad.prog 5 #[.pointer (some ⟨ba, oa, none⟩), .string (st l), .int .i64 0] w fun e w' => (∃ v, e = .returned v) ∧ AddTPost N off (yo l) w ba oa w' := by
  have HO : Hid (Offs (yo l) off N) := ho
  have HL : Hid (off N = l.length) := hl
  have HBB : Hid (off N ≤ 65536) := hb
  have HF : Hid (∀ j, w.frozen? ⟨ba, j, none⟩ = false) := hf
  have hz := st_size l
  obtain ⟨s, hS⟩ : ∃ s, s = st l := ⟨_, rfl⟩
  have HS : Hid (s = st l) := hS
  obtain ⟨Z, hZ⟩ : ∃ Z, Z = off N := ⟨_, rfl⟩
  have HZ : Hid (Z = off N) := hZ
  have hix : ∀ (k : Nat), k < off N → ∀ W, (Instr.index 9 (.string s) (.int .i64 k)).run Ybad.prog W = .ok (.int .u8 (yo l k)) W := fun k h => by rw [hS]; exact st_index l (by omega)
  have HIX : Hid (∀ (k : Nat), k < off N → ∀ W, (Instr.index 9 (.string s) (.int .i64 k)).run Ybad.prog W = .ok (.int .u8 (yo l k)) W) := hix
  have hi0 : ∀ W, (Instr.index 9 (.string s) (.int .i64 0)).run Ybad.prog W = .ok (.int .u8 (yo l 0)) W := hix 0 (by have := ho.strict (i := 0) (j := N) (by omega) (Nat.le_refl _); rw [ho.zero] at this; exact this)
  have h00 := ho.zero
  rw [← hS, ← hl, ← hZ] at hz
  rw [← hS]
  have hZ6 : Z ≤ 65536 := by rw [hZ]; exact hb
  clear hS hix hb hl ho hZ
  have f1 := HF.out (oa + 1)
  have f4 := HF.out (oa + 4)
  clear hf
  have HMK : Hid (∀ b : Bool, Calls Ybad.prog 9 #[.pointer (some ⟨ba, oa, none⟩), .int .i64 0, .bool b] w fun e w' => (∃ u, e = .returned u) ∧ MarkPost w w.heap.size ba oa 0 (.slice none 0 0) ([] ++ [.int .u32 (0 : Nat), .bool b, .int .i64 (0 : Nat)]) (false || b) w') :=
    fun b => mark_any w w.heap.size ba oa 0 0 0 0 none [] false b (World.ownsRow_nil w _ _ _) c1 c3 c4 f1 f4 hba (Nat.le_refl _) (by omega)
  go_enter Ybad.func5, Ybad.ntmps5
  go_wp2_with (go_at_call 9; refine (HMK.out _).mono ?_; rintro e w1 ⟨⟨u, rfl⟩, hp⟩)
  obtain ⟨g0, cap0, had⟩ := AD.first h00 c2 c3 hp
  have hpl : Pl N off (yo l) 0 0 (fun _ => 0) (fun _ => decide (128 ≤ yo l 0)) := ⟨rfl, fun k hk => by omega, fun k hk => by omega, Nat.le_refl _, hN1, by omega, fun _ j _ hj => by omega, fun e _ => ⟨rfl, by have := of_decide_eq_false e; rw [h00]; omega⟩, fun _ => by omega⟩
  have HAD : Hid (AD w ba oa off 0 0 (fun _ => 0) (fun _ => decide (128 ≤ yo l 0)) g0 cap0 w1) := had
  have HPL : Hid (Pl N off (yo l) 0 0 (fun _ => 0) (fun _ => decide (128 ≤ yo l 0))) := hpl
  have H00 : Hid (off 0 = 0) := h00
  clear hp had hpl c1 c2 c3 c4 f1 f4 hi0 HMK h00
  go_loopg [6] (2 * N + 1) (fun k i wr => ∃ (n q : Nat) (mn : Nat → Nat) (mw : Nat → Bool) (g cap : Nat), i = .int .i64 (off n : Nat) ∧ 2 * (N - n) + (if n = mn q + 64 then 1 else 0) ≤ k ∧ Pl N off (yo l) n q mn mw ∧ AD w ba oa off n q mn mw g cap wr)
  case atStart => exact ⟨0, 0, _, _, g0, cap0, by rw [H00.out]; rfl, by simp, HPL.out, HAD.out⟩
  case round =>
    clear HAD HPL
    obtain ⟨n, q, mn, mw, g, cap, rfl, hgk, hP, hA⟩ := hrel
    have HP : Hid (Pl N off (yo l) n q mn mw) := hP
    have HA : Hid (AD w ba oa off n q mn mw g cap wr) := hA
    have HG : Hid (2 * (N - n) + (if n = mn q + 64 then 1 else 0) ≤ gk) := hgk
    have hnN := hP.nN
    obtain ⟨c1, c2, c3, ⟨bw, c4⟩, hfr⟩ := (⟨hA.c1, hA.c2, hA.c3, hA.c4, hA.fr⟩ : _ ∧ _ ∧ _ ∧ _ ∧ _)
    have fz : ∀ j, wr.frozen? ⟨ba, j, none⟩ = false := fun j => (hfr.frz j).trans (HF.out j)
    have hwr : w.heap.size ≤ wr.heap.size := hfr.size
    obtain ⟨a1, a2, a3⟩ := hA.cell (k := q) (by omega)
    have hq : q + 1 ≤ 16384 := by
      have h1 : ∀ k, k ≤ q → k ≤ mn k := by
        intro k
        induction k with
        | zero => intro _; omega
        | succ k ih => intro hk; have h2 := ih (by omega); have h3 := hP.step k (by omega); omega
      have := h1 q (Nat.le_refl _)
      have := hP.lastN
      omega
    have hMKS : ∀ b : Bool, Calls Ybad.prog 9 #[.pointer (some ⟨ba, oa, none⟩), .int .i64 (off n : Nat), .bool b] wr fun e w' => (∃ u, e = .returned u) ∧ MarkPost wr w.heap.size ba oa (q + 1) (.slice (some ⟨g, 0, none⟩) (q + 1) cap) (ml off mn mw (q + 1) ++ [.int .u32 n, .bool b, .int .i64 (off n : Nat)]) (bw || b) w' :=
      fun b => mark_any wr w.heap.size ba oa (q + 1) cap n (off n) _ _ bw b hA.own c1 c3 c4 (fz _) (fz _) hba hwr (by omega)
    have HMKS : Hid (∀ b : Bool, Calls Ybad.prog 9 #[.pointer (some ⟨ba, oa, none⟩), .int .i64 (off n : Nat), .bool b] wr fun e w' => (∃ u, e = .returned u) ∧ MarkPost wr w.heap.size ba oa (q + 1) (.slice (some ⟨g, 0, none⟩) (q + 1) cap) (ml off mn mw (q + 1) ++ [.int .u32 n, .bool b, .int .i64 (off n : Nat)]) (bw || b) w') := hMKS
    have HFR : Hid (MFr w wr ba oa (fun _ => False)) := hfr
    have hoffn : off n ≤ Z := by rw [HZ.out]; exact HO.out.mono hnN (Nat.le_refl _)
    clear hP hA hgk hfr hMKS a3 c2
    by_cases hlt : n < N
    · have hoff : off n < Z := by rw [HZ.out]; exact HO.out.strict hlt (Nat.le_refl _)
      have e1 : ((off n : Nat) : Int) < (Z : Int) := by omega
      have hq1 : (((q + 1 : Nat) : Int) - 1).toNat = q := by omega
      cases hw : mw q
      · obtain ⟨hn1, hn2⟩ := HP.out.lasc hw hlt
        rw [hw] at a2
        have HW : Hid (mw q = false) := hw
        have HN1 : Hid (n = mn q ∧ yo l (off n) < 128) := ⟨hn1, hn2⟩
        have hsl : ∀ W, (Instr.slice 9 (.string s) (some (.int .i64 (off n : Nat))) none none).run Ybad.prog W = .ok (.string (st (l.drop (off n)))) W := by rw [HS.out]; exact st_drop l (by have := HL.out; have := HZ.out; omega)
        have hasc := fun W => asciiLen_any (l.drop (off n)) W (by rw [List.length_drop]; have := HL.out; have := HZ.out; omega)
        have HASC : Hid (∀ W, Calls Ybad.prog 10 #[.string (st (l.drop (off n)))] W fun e w' => (∃ k : Nat, e = .returned (.int .i64 k) ∧ Asc (l.drop (off n)) k) ∧ w' = W) := hasc
        clear hasc hn1 hn2 hw HMKS
        go_upto_region 4 with fail
        go_quiet (fail)
        go_wp2_with fail
        refine (HASC.out _).mono ?_
        rintro e w' ⟨⟨k, rfl, hk⟩, hw'⟩
        obtain rfl := hw'.symm
        have hall : ∀ j, j < k → yo l (off n + j) < 128 := fun j hj => by rw [← yo_drop]; exact hk.all j hj
        have hkl : off n + k ≤ Z := by have := hk.le; rw [List.length_drop] at this; have := HL.out; have := HZ.out; omega
        obtain ⟨hkN, hoffk⟩ := asc_offs HO.out hnN k hall (by rw [← HZ.out]; exact hkl)
        have hflat := asc_flat HO.out hnN hall (by rw [← HZ.out]; exact hkl)
        have hk1 : 1 ≤ k := by
          rcases Nat.eq_zero_or_pos k with h0 | h0
          · have h2 := hk.stop (by rw [h0, List.length_drop]; have := HL.out; have := HZ.out; omega)
            rw [h0, yo_drop, Nat.add_zero] at h2
            have := HN1.out.2
            omega
          · exact h0
        have hstop : off n + k < Z → 128 ≤ yo l (off (n + k)) := fun h => by
          have h2 := hk.stop (by rw [List.length_drop]; have := HL.out; have := HZ.out; omega)
          rw [yo_drop, ← hoffk] at h2
          exact h2
        have HX : Hid ((∀ j, n ≤ j → j < n + k → off (j + 1) = off j + 1) ∧ off (n + k) = off n + k ∧ (off n + k < Z → 128 ≤ yo l (off (n + k)))) := ⟨hflat, hoffk, hstop⟩
        have hA2 := (HA.out.drewN nq).num hba (n + k)
        rw [show ((n + k : Nat) : Int) = (n : Int) + (k : Int) by omega] at hA2
        have HA2 : Hid (AD w ba oa off (n + k) q mn mw g cap ((wr.drewN nq).setCell ⟨ba, oa + 3, none⟩ (.int .u32 ((n : Int) + (k : Int))))) := hA2
        have f3 := fz (oa + 3)
        clear hk hall hoffk hflat hstop HASC hA2
        go_upto_region 13 with fail
        obtain ⟨V, hV⟩ : ∃ V, V = (wr.drewN nq).setCell ⟨ba, oa + 3, none⟩ (.int .u32 ((n : Int) + (k : Int))) := ⟨_, rfl⟩
        rw [← hV] at HA2 ⊢
        clear hV c1 c3 c4 fz a1 a2 f3
        by_cases hend : off n + k < Z
        · have e7 : ((off n : Nat) : Int) + (k : Int) < (Z : Int) := by omega
          obtain ⟨d1, d3, ⟨bw2, d4⟩, dfr⟩ := (⟨HA2.out.c1, HA2.out.c3, HA2.out.c4, HA2.out.fr⟩ : _ ∧ _ ∧ _ ∧ _)
          have hmk := mark_any V w.heap.size ba oa (q + 1) cap (n + k) (off (n + k)) _ _ bw2 true HA2.out.own d1 d3 d4 ((dfr.frz _).trans (HF.out _)) ((dfr.frz _).trans (HF.out _)) hba dfr.size (by omega)
          have HMK : Hid (Calls Ybad.prog 9 #[.pointer (some ⟨ba, oa, none⟩), .int .i64 ((off n : Nat) + (k : Int)), .bool true] V fun e w' => (∃ u, e = .returned u) ∧ MarkPost V w.heap.size ba oa (q + 1) (.slice (some ⟨g, 0, none⟩) (q + 1) cap) (ml off mn mw (q + 1) ++ [.int .u32 ((n + k : Nat) : Int), .bool true, .int .i64 ((off (n + k) : Nat) : Int)]) (bw2 || true) w') := by
            rw [show ((off n : Nat) : Int) + (k : Int) = ((off (n + k) : Nat) : Int) by rw [HX.out.2.1]; omega]
            exact hmk
          clear d1 d3 d4 dfr hmk
          go_wp2_with (go_at_call 9; refine HMK.out.mono ?_; rintro e w2 ⟨⟨u2, rfl⟩, hp⟩)
          obtain ⟨g2, cap2, hA3⟩ := HA2.out.mark hp
          have HA3 : Hid (AD w ba oa off (n + k) (q + 1) (upN mn (q + 1) (n + k)) (upN mw (q + 1) true) g2 cap2 w2) := hA3
          clear hp hA3 HMK
          go_roundg (gk - 1)
          case measure => have := HG.out; omega
          case rel =>
            have hnk : n + k < N := by
              rcases Nat.lt_or_ge (n + k) N with h | h
              · exact h
              · have e : n + k = N := by omega
                have h2 := HX.out.2.1
                rw [e] at h2
                have := HZ.out
                omega
            refine ⟨n + k, q + 1, _, _, g2, cap2, by rw [HX.out.2.1]; go_num, ?_, HP.out.push true (by have := HN1.out.1; omega) hnk (fun _ j h1 h2 => HX.out.1 j (by have := HN1.out.1; omega) h2) (fun e => by cases e), HA3.out⟩
            have := HG.out
            rw [upN_same, if_neg (by omega)]
            omega
        · have e7 : ¬ ((off n : Nat) : Int) + (k : Int) < (Z : Int) := by omega
          go_wp2
          go_roundg (gk - 1)
          case measure => have := HG.out; omega
          case rel =>
            have hnk : n + k = N := by
              rcases Nat.lt_or_ge (n + k) N with h | h
              · have h2 := HO.out.strict h (Nat.le_refl _)
                have := HX.out.2.1
                have := HZ.out
                omega
              · omega
            have hA3 := HA2.out
            rw [hnk] at hA3
            refine ⟨N, q, mn, mw, g, cap, by rw [← hnk, HX.out.2.1]; go_num, ?_, HP.out.asc HW.out (fun j h1 h2 => HX.out.1 j (by have := HN1.out.1; omega) (by omega)), hA3⟩
            have := HG.out
            have h2 := HN1.out.1
            split <;> omega
      · rw [hw] at a2
        have HW : Hid (mw q = true) := hw
        have hmq := HP.out.last
        have hm64 := HP.out.wid hw
        have hmN : mn q ≤ 16384 := by omega
        clear hw
        by_cases h64 : n = mn q + 64
        · have H64 : Hid (n = mn q + 64) := h64
          have e8 : (n : Int) - (mn q : Int) = 64 := by omega
          have hi0 : ∀ W, (Instr.index 9 (.string s) (.int .i64 (off n : Nat))).run Ybad.prog W = .ok (.int .u8 (yo l (off n))) W := HIX.out (off n) (by rw [← HZ.out]; exact hoff)
          clear h64 hm64
          go_upto_region 4 with fail
          go_quiet (fail)
          obtain ⟨V, hV⟩ : ∃ V, V = wr.drewN nq := ⟨_, rfl⟩
          rw [← hV]
          have HAV : Hid (AD w ba oa off n q mn mw g cap V) := by rw [hV]; exact HA.out.drewN nq
          have d2 : V.cell? ⟨g, q * 3 + 1, none⟩ = some (.bool true) := by rw [hV]; exact a2
          have d1 : V.cell? ⟨g, q * 3, none⟩ = some (.int .u32 (mn q : Nat)) := by rw [hV]; exact a1
          have d3 : V.cell? ⟨ba, oa + 3, none⟩ = some (.int .u32 n) := HAV.out.c3
          clear hV a1 a2 c1 c3 c4 HMKS HA fz
          go_upto_region 15 with fail
          go_quiet (fail)
          clear d1 d2 d3
          obtain ⟨V2, hV2⟩ : ∃ V2, V2 = V.drewN nq := ⟨_, rfl⟩
          rw [← hV2]
          have HA2 : Hid (AD w ba oa off n q mn mw g cap V2) := by rw [hV2]; exact HAV.out.drewN nq
          clear hV2 HAV
          obtain ⟨d1, d3, ⟨bw2, d4⟩, dfr⟩ := (⟨HA2.out.c1, HA2.out.c3, HA2.out.c4, HA2.out.fr⟩ : _ ∧ _ ∧ _ ∧ _)
          have hmk := fun b : Bool => mark_any V2 w.heap.size ba oa (q + 1) cap n (off n) _ _ bw2 b HA2.out.own d1 d3 d4 ((dfr.frz _).trans (HF.out _)) ((dfr.frz _).trans (HF.out _)) hba dfr.size (by omega)
          have HMK : Hid (∀ b : Bool, Calls Ybad.prog 9 #[.pointer (some ⟨ba, oa, none⟩), .int .i64 (off n : Nat), .bool b] V2 fun e w' => (∃ u, e = .returned u) ∧ MarkPost V2 w.heap.size ba oa (q + 1) (.slice (some ⟨g, 0, none⟩) (q + 1) cap) (ml off mn mw (q + 1) ++ [.int .u32 n, .bool b, .int .i64 (off n : Nat)]) (bw2 || b) w') := hmk
          clear d1 d3 d4 dfr hmk
          go_wp2_with (go_at_call 9; refine (HMK.out _).mono ?_; rintro e w2 ⟨⟨u2, rfl⟩, hp⟩)
          obtain ⟨g2, cap2, hA3⟩ := HA2.out.mark hp
          have HA3 : Hid (AD w ba oa off n (q + 1) (upN mn (q + 1) n) (upN mw (q + 1) (decide (128 ≤ yo l (off n)))) g2 cap2 w2) := hA3
          clear hp hA3 HMK
          go_roundg (gk - 1)
          case measure => have := HG.out; rw [if_pos H64.out] at this; omega
          case rel =>
            refine ⟨n, q + 1, _, _, g2, cap2, rfl, ?_, HP.out.push (decide (128 ≤ yo l (off n))) (by have := H64.out; omega) hlt (fun e => by rw [HW.out] at e; cases e) (fun e => by have := of_decide_eq_false e; omega), HA3.out⟩
            have := HG.out
            rw [if_pos H64.out] at this
            rw [upN_same, if_neg (by omega)]
            omega
        · have H64 : Hid (n < mn q + 64) := by show n < mn q + 64; omega
          have e8 : ((n : Int) - (mn q : Int) == 64) = false := by rw [beq_eq_false_iff_ne]; omega
          clear h64
          go_upto_region 4 with fail
          go_quiet (fail)
          obtain ⟨V, hV⟩ : ∃ V, V = wr.drewN nq := ⟨_, rfl⟩
          rw [← hV]
          have HAV : Hid (AD w ba oa off n q mn mw g cap V) := by rw [hV]; exact HA.out.drewN nq
          have d2 : V.cell? ⟨g, q * 3 + 1, none⟩ = some (.bool true) := by rw [hV]; exact a2
          have d1 : V.cell? ⟨g, q * 3, none⟩ = some (.int .u32 (mn q : Nat)) := by rw [hV]; exact a1
          have d3 : V.cell? ⟨ba, oa + 3, none⟩ = some (.int .u32 n) := HAV.out.c3
          clear hV a1 a2 c1 c3 c4 HMKS HA fz
          go_upto_region 15 with fail
          go_quiet (fail)
          clear d1 d2 d3
          obtain ⟨V2, hV2⟩ : ∃ V2, V2 = V.drewN nq := ⟨_, rfl⟩
          rw [← hV2]
          have HA2 : Hid (AD w ba oa off n q mn mw g cap V2) := by rw [hV2]; exact HAV.out.drewN nq
          clear hV2 HAV
          obtain ⟨d1, _, _⟩ := HA2.out.cell (k := q) (by omega)
          have d3 := HA2.out.c3
          go_upto_region 5 with fail
          go_quiet (fail)
          clear d1 d3
          obtain ⟨V3, hV3⟩ : ∃ V3, V3 = V2.drewN nq := ⟨_, rfl⟩
          rw [← hV3]
          have HA3 : Hid (AD w ba oa off n q mn mw g cap V3) := by rw [hV3]; exact HA2.out.drewN nq
          clear hV3 HA2 hm64 e8
          go_wp2
          go_loopw [6, 9] (fun i k wr2 => ∃ n' : Nat, i = .int .i64 (off n' : Nat) ∧ k = .int .u32 ((mn q + 64 - n' : Nat) : Int) ∧ n ≤ n' ∧ n' ≤ N ∧ n' ≤ mn q + 64 ∧ AD w ba oa off n' q mn mw g cap wr2) (fun _ k _ => (intOf k).toNat)
          case atStart => exact ⟨n, rfl, congrArg _ (by have := H64.out; omega), Nat.le_refl _, hnN, by have := H64.out; omega, HA3.out⟩
          case round =>
            clear HA3
            obtain ⟨n', rfl, rfl, hn1, hn2, hn3, hA4⟩ := hrel
            have HA4 : Hid (AD w ba oa off n' q mn mw g cap wr) := hA4
            have c3 := hA4.c3
            have f3 : wr.frozen? ⟨ba, oa + 3, none⟩ = false := (hA4.fr.frz _).trans (HF.out _)
            clear hA4
            obtain ⟨r, hr⟩ : ∃ r, r = mn q + 64 - n' := ⟨_, rfl⟩
            rw [← hr]
            have HR : Hid (r = mn q + 64 - n') := hr
            have hr64 : r ≤ 16448 := by omega
            have hoffn' : off n' ≤ Z := by rw [HZ.out]; exact HO.out.mono hn2 (Nat.le_refl _)
            by_cases hgo : 0 < r ∧ n' < N
            · obtain ⟨hg1, hg2⟩ := hgo
              have e9 : (0 : Int) < (r : Int) := by omega
              have hoff' : off n' < Z := by rw [HZ.out]; exact HO.out.strict hg2 (Nat.le_refl _)
              have e10 : ((off n' : Nat) : Int) < (Z : Int) := by omega
              have hix : ∀ W, (Instr.index 9 (.string s) (.int .i64 (off n' : Nat))).run Ybad.prog W = .ok (.int .u8 (yo l (off n'))) W := HIX.out (off n') (by rw [← HZ.out]; exact hoff')
              have hsucc := HO.out.succ n' hg2
              have HSU : Hid (off (n' + 1) = off n' + sl (yo l (off n'))) := hsucc
              have hsl4 := sl_le (yo l (off n'))
              have hA5 := HA4.out.num hba (n' + 1)
              rw [show ((n' + 1 : Nat) : Int) = (n' : Int) + 1 by omega] at hA5
              have HA5 : Hid (AD w ba oa off (n' + 1) q mn mw g cap (wr.setCell ⟨ba, oa + 3, none⟩ (.int .u32 ((n' : Int) + 1)))) := hA5
              clear hr hsucc hA5
              go_wp2_with (go_at_call 11; refine (seqLen_any _ _).mono ?_; rintro e w' ⟨rfl, hw'⟩; obtain rfl := hw'.symm)
              go_roundw
              case rel => exact ⟨n' + 1, by rw [HSU.out]; go_num, congrArg _ (by have := HR.out; omega), by omega, hg2, by have := HR.out; omega, HA5.out⟩
              case measure => simp [intOf]; omega
            · have HX : Hid (r = 0 ∨ n' = N) := by show r = 0 ∨ n' = N; omega
              have hgt : n < n' := by
                rcases HX.out with h | h
                · have := HR.out; have := H64.out; omega
                · omega
              clear hgo hr
              by_cases hr0 : r = 0
              · have e9 : ¬ (0 : Int) < (r : Int) := by omega
                have HR0 : Hid (r = 0) := hr0
                clear hr0
                go_wp2
                go_roundg (gk - 1)
                case measure => have := HG.out; omega
                case rel => exact ⟨n', q, mn, mw, g, cap, rfl, by have := HG.out; split <;> omega, HP.out.more HW.out (by omega) hn2 hn3, HA4.out⟩
              · have e9 : (0 : Int) < (r : Int) := by omega
                have hnN2 : n' = N := by rcases HX.out with h | h; exact absurd h hr0; exact h
                have e10 : ¬ ((off n' : Nat) : Int) < (Z : Int) := by have := HZ.out; rw [hnN2]; omega
                clear hr0 hnN2
                go_wp2
                go_roundg (gk - 1)
                case measure => have := HG.out; omega
                case rel => exact ⟨n', q, mn, mw, g, cap, rfl, by have := HG.out; split <;> omega, HP.out.more HW.out (by omega) hn2 hn3, HA4.out⟩
    · have HNN : Hid (n = N) := by show n = N; omega
      have e1 : ¬ ((off n : Nat) : Int) < (Z : Int) := by have := HZ.out; rw [HNN.out]; omega
      have hd : ∀ u, AddTPost N off (yo l) w ba oa (wr.setCell ⟨ba, oa + 2, none⟩ u) := fun u => AD.done (by have h := HA.out; rw [HNN.out] at h; exact h) hba (by have h := HP.out; rw [HNN.out] at h; exact h) HO.out hN HBB.out u
      have HD : Hid (∀ u, AddTPost N off (yo l) w ba oa (wr.setCell ⟨ba, oa + 2, none⟩ u)) := hd
      have c2 := HA.out.c2
      have f2 := fz (oa + 2)
      clear hd hlt hnN
      go_wp2
      go_end0
      exact ⟨⟨_, rfl⟩, HD.out _⟩
end Go.Proofs.YbulkdhcgDoor
