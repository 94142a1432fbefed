/-
  THE WALK of LawS5414AWhole.
-/
import Derived.Test.YbulkdhcgWalks
import Derived.Deep.CutBlock
import Derived.Deep.Light
import Derived.WalkSmall
namespace Go.Proofs.Ybulkdhcg
open Go.RowKit Plain

theorem room_new (w : World) (n : Nat) : Room9 (w.alloc (zrow n)) w.heap.size n := by
  refine ⟨by rw [World.size_alloc]; omega, fun i hi j hj => ⟨?_, ?_⟩⟩
  · unfold zrow
    rw [World.cell?_alloc_at _ _ _ _ rfl, Array.getElem?_eq_getElem (by rw [size_madeCells]; omega)]
    rfl
  · unfold zrow
    exact World.frozen?_alloc_at _ _ _ _ rfl

theorem nil_neq (W : World) : (binOp .neq 35 (.slice none 0 0) (.slice none 0 0)).run Yba.prog W = .ok (.bool false) W := by kernel_rfl

/-- the source: the argument's ops. -/
def Src (w : World) (a0 : Option Addr) (n : Nat) (o : Nat → Op9) : Prop :=
  ∀ i, i < n → ∃ b off, a0 = some ⟨b, off, none⟩ ∧ ∀ j, j < 9 → w.cell? ⟨b, off + i * 9 + j, none⟩ = some ((o i).at j)

set_option maxRecDepth 20000 in
set_option maxHeartbeats 400000 in
theorem law_any (actor seq start : Int) (a0 : Option Addr) (n cap : Nat) (o : Nat → Op9) (txt : ByteArray) (w : World) (hn : n ≤ 1048576)
    (hs : Src w a0 n o) (h0 : 0 ≤ start) (h1 : start ≤ 18446744073709551615) :
    Calls Yba.prog 3 #[.int .u64 actor, .int .u64 seq, .int .u64 start, .slice a0 n cap, .string txt] w fun e w' => e = .returned (.bool true) ∧ Below w.heap.size w w' := by
  have HS : Hid (Src w a0 n o) := hs
  have hmk := make_run n hn
  clear hs
  go_enter Yba.func3, Yba.ntmps3
  go_wp2_with fail
  clear hmk
  go_loopg [13] n (fun g i wr => ∃ k : Nat, k + g = n ∧ i = .int .i64 k ∧ Rows9 wr w.heap.size k o ∧ Rows9 wr (w.heap.size + 1) k o ∧ Room9 wr w.heap.size n ∧ Room9 wr (w.heap.size + 1) n ∧ Below w.heap.size w wr)
  case atStart =>
    have r1 := room_new w n
    have r2 := room_new (w.alloc (zrow n)) n
    rw [World.size_alloc] at r2
    exact ⟨0, by omega, rfl, ⟨(r1.alloc _).size, fun i hi => by omega⟩, ⟨r2.size, fun i hi => by omega⟩, r1.alloc _, r2, ((Below.refl _ _).alloc (Nat.le_refl _) _).alloc (by simp) _⟩
  case round =>
    obtain ⟨k, hk, rfl, hr1, hr2, hm1, hm2, hbel⟩ := hrel
    have HR1 : Hid (Rows9 wr w.heap.size k o) := hr1
    have HR2 : Hid (Rows9 wr (w.heap.size + 1) k o) := hr2
    have HM1 : Hid (Room9 wr w.heap.size n) := hm1
    have HM2 : Hid (Room9 wr (w.heap.size + 1) n) := hm2
    have HB : Hid (Below w.heap.size w wr) := hbel
    by_cases hlt : k < n
    · obtain ⟨b, off, rfl, hc⟩ := HS.out k hlt
      obtain ⟨cs, hcs⟩ : ∃ cs, cs = (o k).cells := ⟨_, rfl⟩
      have HCS : Hid (cs = (o k).cells) := hcs
      clear hcs
      have hsrc : Hid (wr.rangeAt b (off + k * 9) cs.toList) := by
        rw [HCS.out]
        intro j v hv
        have hj : j < 9 := (List.getElem?_eq_some_iff.1 hv).1
        rw [at_of _ j hj] at hv
        cases hv
        rw [hbel.cell (p := ⟨b, off + k * 9 + j, none⟩) (World.block_lt_of_cell? w _ (hc j hj))]
        exact hc j hj
      have hop : Hid (∀ W, Calls Yba.prog 4 #[.agg cs] W fun e w' => e = .returned (.agg cs) ∧ ∃ c1 c2 : Array Value, w' = (W.alloc (.cells c1 33)).alloc (.cells c2 30)) := by
        rw [HCS.out]; exact op_any (o k)
      have hst : Hid (∀ W b, Room9 W b n → (storeCells ⟨b, k * 9, none⟩ cs.toList).run Yba.prog W = .ok () (W.setCells b (k * 9) cs.toList)) := by
        rw [HCS.out]; exact fun W b hm => store_run hm hlt (o k)
      have hsd : Hid (∀ W b, Rows9 W b k o → Room9 W b n → Rows9 (W.setCells b (k * 9) cs.toList) b (k + 1) o ∧ (W.setCells b (k * 9) cs.toList).rangeAt b (k * 9) cs.toList) := by
        rw [HCS.out]; exact fun W b hr hm => ⟨hr.stored hm hlt, (hr.stored hm hlt).range k (by omega)⟩
      have hi33 : Hid ((Yba.prog.info? 33).map (·.size) = some cs.toList.length) := by show _ = _; rw [HCS.out]; kernel_rfl
      have hi30 : Hid ((Yba.prog.info? 30).map (·.size) = some cs.toList.length) := by show _ = _; rw [HCS.out]; kernel_rfl
      clear hr1 hr2 hm1 hm2 hbel hc
      have HK : Hid (k + gk = n) := hk
      clear hk
      go_wp2_with (refine wpList_load_mid (by rfl) 33 (.tmp 40) (by rfl) b (off + k * 9) (by rfl) cs.toList _ hsrc.out Yba.underlying33 (by rfl) hi33.out ?_)
      refine (hop.out _).mono ?_
      rintro e w' ⟨rfl, c1, c2, rfl⟩
      have hcz : cs.size = 9 := by rw [HCS.out]; rfl
      have hst1 := hst.out _ _ ((HM1.out.alloc (.cells c1 33)).alloc (.cells c2 30))
      have hst2 := hst.out _ _ (((HM2.out.alloc (.cells c1 33)).alloc (.cells c2 30)).setCells w.heap.size (k * 9) cs.toList)
      have hsd1 : Hid (_ ∧ _) := (hsd.out _ _ ((HR1.out.alloc (.cells c1 33)).alloc (.cells c2 30)) ((HM1.out.alloc (.cells c1 33)).alloc (.cells c2 30)))
      go_upto_region 9 with fail
      clear hst1
      go_wp2_with (refine wpList_load_mid (by rfl) 30 (.tmp 48) (by rfl) w.heap.size (k * 9) (by rfl) cs.toList _ hsd1.out.2 Yba.underlying30 (by rfl) hi30.out ?_)
      go_roundg (gk - 1)
      case measure => have := HK.out; omega
      case rel =>
        have e1 := hsd1.out.1
        have hne : w.heap.size + 1 ≠ w.heap.size := by omega
        have e2 := (hsd.out _ _ (((HR2.out.alloc (.cells c1 33)).alloc (.cells c2 30)).apart w.heap.size (k * 9) cs.toList hne) (((HM2.out.alloc (.cells c1 33)).alloc (.cells c2 30)).setCells w.heap.size (k * 9) cs.toList)).1
        have hz := HB.out.size
        refine ⟨k + 1, by have := HK.out; omega, by go_num, e1.apart _ _ _ (Ne.symm hne), e2, (((HM1.out.alloc _).alloc _).setCells _ _ _).setCells _ _ _, (((HM2.out.alloc _).alloc _).setCells _ _ _).setCells _ _ _, ?_⟩
        exact below_setCells _ (by omega) _ _ _ (below_setCells _ (Nat.le_refl _) _ _ _ ((HB.out.alloc hz _).alloc (by simp; omega) _))
    · obtain rfl : k = n := by omega
      clear hr1 hr2 hm1 hm2 hbel HM1 HM2 hlt hk
      go_wp2_with fail
      go_loop [15, 16, 17] (fun s t i => ∃ j : Nat, j ≤ k ∧ i = .int .i64 j ∧ s = .int .u64 (allTo (fun i => (o i).ct) j) ∧ t = .int .u64 (otherTo (fun i => (o i).kd) (fun i => (o i).ct) j)) (fun _ _ i => k - (intOf i).toNat)
      case atStart => exact ⟨0, Nat.zero_le _, rfl, rfl, rfl⟩
      case round =>
        obtain ⟨j, hj, rfl, rfl, rfl⟩ := hrel
        by_cases hlt : j < k
        · obtain ⟨b, off, rfl, hc⟩ := HS.out j hlt
          have hlb := World.block_lt_of_cell? w _ (hc 0 (by omega))
          have d0 : wr.cell? ⟨b, off + j * 9, none⟩ = some (.int .u8 (o j).kd) := (HB.out.cell (p := ⟨b, off + j * 9, none⟩) hlb).trans (hc 0 (by omega))
          have d8 : wr.cell? ⟨b, off + j * 9 + 8, none⟩ = some (.int .u64 (o j).ct) := (HB.out.cell (p := ⟨b, off + j * 9 + 8, none⟩) hlb).trans (hc 8 (by omega))
          have hlb2 : b < wr.heap.size := Nat.lt_of_lt_of_le hlb HB.out.size
          clear hc
          by_cases e : (o j).kd = 1
          · have e1 : ((o j).kd != 1) = false := by simp [e]
            have H1 : Hid ((o j).kd = 1) := e
            clear e
            go_wp2
            go_round
            case rel => exact ⟨j + 1, by omega, by go_num, by rw [IntKind.wrap_u64]; rfl, by simp only [otherTo, if_pos H1.out]⟩
            case measure => simp [intOf]; omega
          · have e1 : ((o j).kd != 1) = true := by simp [e]
            have H1 : Hid (¬ (o j).kd = 1) := e
            clear e
            go_wp2
            go_round
            case rel => exact ⟨j + 1, by omega, by go_num, by rw [IntKind.wrap_u64]; rfl, by rw [IntKind.wrap_u64]; simp only [otherTo, if_neg H1.out]⟩
            case measure => simp [intOf]; omega
        · obtain rfl : j = k := by omega
          clear hlt hj
          go_wp2_with fail
          have heq : IntKind.u64.wrap (IntKind.u64.wrap (start + allTo (fun i => (o i).ct) j) - otherTo (fun i => (o i).kd) (fun i => (o i).ct) j) = endTo start (fun i => (o i).kd) (fun i => (o i).ct) j := by
            rw [IntKind.wrap_u64, IntKind.wrap_u64, ← end_is start _ _ h0 h1]
          rw [heq]
          clear heq
          refine (end_any wr.heap.size w.heap.size j start o (by omega) _ (by rw [World.cell?_alloc_at _ _ _ _ rfl]; rfl) (by rw [World.cell?_alloc_at _ _ _ _ rfl]; rfl) (HR1.out.alloc _)).mono ?_
          rintro e w' ⟨rfl, rfl⟩
          generalize endTo start (fun i => (o i).kd) (fun i => (o i).ct) j = E
          have hnn := nil_neq
          have HN : Hid (j ≤ 1048576) := hn
          go_wp2_with fail
          clear hnn
          generalize hW : wr.alloc (.cells #[.int .u64 actor, .int .u64 seq, .int .u64 start, .slice (some ⟨w.heap.size, 0, none⟩) j j, .string txt, .slice none 0 0] 37) = W
          have c3 : W.cell? ⟨wr.heap.size, 3, none⟩ = some (.slice (some ⟨w.heap.size, 0, none⟩) j j) := by rw [← hW, World.cell?_alloc_at _ _ _ _ rfl]; rfl
          have HW1 : Hid (Rows9 W w.heap.size j o) := by rw [← hW]; exact HR1.out.alloc _
          have HW2 : Hid (Rows9 W (w.heap.size + 1) j o) := by rw [← hW]; exact HR2.out.alloc _
          have HWB : Hid (Below w.heap.size w W) := by rw [← hW]; exact HB.out.alloc HB.out.size _
          clear hW
          go_loopg [20] j (fun g i wv => ∃ m q : Nat, m + g = j ∧ i = .int .i64 m ∧ wv = W.drewN q)
          case atStart => exact ⟨0, 0, by omega, rfl, rfl⟩
          case round =>
            obtain ⟨m, q, hm, rfl, rfl⟩ := hrel
            have HM : Hid (m + gk = j) := hm
            by_cases hlt : m < j
            · clear hm
              have x0 : W.cell? ⟨w.heap.size, m * 9, none⟩ = some (.int .u8 (o m).kd) := HW1.out.cell m hlt 0 (by omega)
              have x1 : W.cell? ⟨w.heap.size, m * 9 + 1, none⟩ = some (.bool (o m).fs) := HW1.out.cell m hlt 1 (by omega)
              have x2 : W.cell? ⟨w.heap.size, m * 9 + 2, none⟩ = some (.int .u8 (o m).sd) := HW1.out.cell m hlt 2 (by omega)
              have x3 : W.cell? ⟨w.heap.size, m * 9 + 3, none⟩ = some (.bool (o m).hb) := HW1.out.cell m hlt 3 (by omega)
              have x4 : W.cell? ⟨w.heap.size, m * 9 + 4, none⟩ = some (.int .u64 (o m).ra) := HW1.out.cell m hlt 4 (by omega)
              have x5 : W.cell? ⟨w.heap.size, m * 9 + 5, none⟩ = some (.int .u64 (o m).rn) := HW1.out.cell m hlt 5 (by omega)
              have x6 : W.cell? ⟨w.heap.size, m * 9 + 6, none⟩ = some (.int .u64 (o m).ba) := HW1.out.cell m hlt 6 (by omega)
              have x7 : W.cell? ⟨w.heap.size, m * 9 + 7, none⟩ = some (.int .u64 (o m).bn) := HW1.out.cell m hlt 7 (by omega)
              have x8 : W.cell? ⟨w.heap.size, m * 9 + 8, none⟩ = some (.int .u64 (o m).ct) := HW1.out.cell m hlt 8 (by omega)
              have y0 : W.cell? ⟨w.heap.size + 1, m * 9, none⟩ = some (.int .u8 (o m).kd) := HW2.out.cell m hlt 0 (by omega)
              have y1 : W.cell? ⟨w.heap.size + 1, m * 9 + 1, none⟩ = some (.bool (o m).fs) := HW2.out.cell m hlt 1 (by omega)
              have y2 : W.cell? ⟨w.heap.size + 1, m * 9 + 2, none⟩ = some (.int .u8 (o m).sd) := HW2.out.cell m hlt 2 (by omega)
              have y3 : W.cell? ⟨w.heap.size + 1, m * 9 + 3, none⟩ = some (.bool (o m).hb) := HW2.out.cell m hlt 3 (by omega)
              have y4 : W.cell? ⟨w.heap.size + 1, m * 9 + 4, none⟩ = some (.int .u64 (o m).ra) := HW2.out.cell m hlt 4 (by omega)
              have y5 : W.cell? ⟨w.heap.size + 1, m * 9 + 5, none⟩ = some (.int .u64 (o m).rn) := HW2.out.cell m hlt 5 (by omega)
              have y6 : W.cell? ⟨w.heap.size + 1, m * 9 + 6, none⟩ = some (.int .u64 (o m).ba) := HW2.out.cell m hlt 6 (by omega)
              have y7 : W.cell? ⟨w.heap.size + 1, m * 9 + 7, none⟩ = some (.int .u64 (o m).bn) := HW2.out.cell m hlt 7 (by omega)
              have y8 : W.cell? ⟨w.heap.size + 1, m * 9 + 8, none⟩ = some (.int .u64 (o m).ct) := HW2.out.cell m hlt 8 (by omega)
              have hi1 : (0 : Int) ≤ (m : Int) := by omega
              have hi2 : (m : Int) < (j : Int) := by omega
              go_wp2
              go_quiet (fail)
              go_wp2
              go_roundg (gk - 1)
              case measure => have := HM.out; omega
              case rel => exact ⟨m + 1, _, by have := HM.out; omega, by go_num, rfl⟩
            · obtain rfl : m = j := by omega
              go_wp2
              go_ret
              exact ⟨rfl, below_drewN HWB.out _⟩

theorem law_great (actor seq start : Int) (a0 : Option Addr) (n cap : Nat) (txt : ByteArray) (w : World) (hn : 1048576 < n) :
    Calls Yba.prog 3 #[.int .u64 actor, .int .u64 seq, .int .u64 start, .slice a0 n cap, .string txt] w fun e w' => e = .returned (.bool true) ∧ Below w.heap.size w w' := by
  go_enter Yba.func3, Yba.ntmps3
  go_wp2_with fail
  go_ret
  exact ⟨rfl, Below.refl _ _⟩
end Go.Proofs.Ybulkdhcg
