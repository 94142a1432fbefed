/-
  The law where there is an event before.
-/
import Derived.Test.YbulkdhacDoorLawA
import Derived.Test.YbulkdhacDoorSetTail
import Derived.Test.YbulkdhacDoorBuilt
namespace Go.Proofs.YbulkdhacDoor
open Go.RowKit Floats
attribute [local go_sem] run_store_flt alloc_drewN setCell_drewN

set_option maxRecDepth 20000 in
set_option maxHeartbeats 40000000 in
theorem law_prev (b0 : Bool) (F : Nat → Nat) (I : Nat → Int) (ec : List Value) (N G Pr x0 x1 x2 x3 x4 x5 d0 d1 d2 d3 d4 d5 d6 d7 d8 p0 p1 p2 p3 p4 p5 p6 p7 p8 : Int) (n0 n1 n2 n3 n4 n5 n6 n7 n8 : Nat) (sc fo pe : Bool) (hec : ec = [.int .i64 N, .int .i64 G, .int .i64 Pr, .int .u64 d0, .int .u64 d1, .int .u64 d2, .int .u64 d3, .int .u64 d4, .int .u64 d5, .int .u64 d6, .int .u64 d7, .int .u64 d8, .int .u8 p0, .int .u8 p1, .int .u8 p2, .int .u8 p3, .int .u8 p4, .int .u8 p5, .int .u8 p6, .int .u8 p7, .int .u8 p8, .int .i64 x0, .int .i64 x1, .int .i64 x2, .int .i64 x3, .int .i64 x4, .int .i64 x5, .bool sc, .bool fo, .bool pe]) (hn0 : p0 % 20 = ((n0 : Nat) : Int)) (ha0 : 0 ≤ p0) (hb0 : p0 ≤ 255) (hn1 : p1 % 20 = ((n1 : Nat) : Int)) (ha1 : 0 ≤ p1) (hb1 : p1 ≤ 255) (hn2 : p2 % 20 = ((n2 : Nat) : Int)) (ha2 : 0 ≤ p2) (hb2 : p2 ≤ 255) (hn3 : p3 % 20 = ((n3 : Nat) : Int)) (ha3 : 0 ≤ p3) (hb3 : p3 ≤ 255) (hn4 : p4 % 20 = ((n4 : Nat) : Int)) (ha4 : 0 ≤ p4) (hb4 : p4 ≤ 255) (hn5 : p5 % 20 = ((n5 : Nat) : Int)) (ha5 : 0 ≤ p5) (hb5 : p5 ≤ 255) (hn6 : p6 % 20 = ((n6 : Nat) : Int)) (ha6 : 0 ≤ p6) (hb6 : p6 ≤ 255) (hn7 : p7 % 20 = ((n7 : Nat) : Int)) (ha7 : 0 ≤ p7) (hb7 : p7 ≤ 255) (hn8 : p8 % 20 = ((n8 : Nat) : Int)) (ha8 : 0 ≤ p8) (hb8 : p8 ≤ 255) (r0 r1 r2 r3 r4 r5 r6 r7 r8 : Nat) (hq : (Ev.mk N G Pr x0 x1 x2 x3 x4 x5 d0 d1 d2 d3 d4 d5 d6 d7 d8 n0 n1 n2 n3 n4 n5 n6 n7 n8 sc fo pe).Quo r0 r1 r2 r3 r4 r5 r6 r7 r8) (hf : (Ev.mk N G Pr x0 x1 x2 x3 x4 x5 d0 d1 d2 d3 d4 d5 d6 d7 d8 n0 n1 n2 n3 n4 n5 n6 n7 n8 sc fo pe).Fit) (L : List Nat) (hL : L = [floatOfInt .f64 N, r0, floatOfInt .f64 G, r1, r2, r3, r4, r5, r6, r7, r8, floatOfInt .f64 x0, floatOfInt .f64 x1, floatOfInt .f64 x2, floatOfInt .f64 x3, floatOfInt .f64 x4, floatOfInt .f64 x5, scanB sc, floatOfInt .f64 Pr]) (mm bb qq : Nat → Nat) (h0 : floatBits .add .f64 (L.getD 0 0) one64 = some (mm 0)) (hm : ∀ i, 0 < i → i < 19 → L.getD i 0 = mm i) (hbb : ∀ i, i < 19 → floatBits .add .f64 (mm i) one64 = some (bb i)) (hqq : ∀ i, i < 19 → floatBits .quo .f64 one64 (bb i) = some (qq i)) (w : World) (hp : Pow w) :
    Calls Ybad.prog 3 #[.agg (arr (yv b0 F I)), .bool true, .agg ec.toArray] w fun e w' => e = .returned (.bool true) ∧ Below w.heap.size w w' := by
  have HEC : Hid (ec = [.int .i64 N, .int .i64 G, .int .i64 Pr, .int .u64 d0, .int .u64 d1, .int .u64 d2, .int .u64 d3, .int .u64 d4, .int .u64 d5, .int .u64 d6, .int .u64 d7, .int .u64 d8, .int .u8 p0, .int .u8 p1, .int .u8 p2, .int .u8 p3, .int .u8 p4, .int .u8 p5, .int .u8 p6, .int .u8 p7, .int .u8 p8, .int .i64 x0, .int .i64 x1, .int .i64 x2, .int .i64 x3, .int .i64 x4, .int .i64 x5, .bool sc, .bool fo, .bool pe]) := hec
  have HN : Hid (p0 % 20 = ((n0 : Nat) : Int) ∧ p1 % 20 = ((n1 : Nat) : Int) ∧ p2 % 20 = ((n2 : Nat) : Int) ∧ p3 % 20 = ((n3 : Nat) : Int) ∧ p4 % 20 = ((n4 : Nat) : Int) ∧ p5 % 20 = ((n5 : Nat) : Int) ∧ p6 % 20 = ((n6 : Nat) : Int) ∧ p7 % 20 = ((n7 : Nat) : Int) ∧ p8 % 20 = ((n8 : Nat) : Int)) := ⟨hn0, hn1, hn2, hn3, hn4, hn5, hn6, hn7, hn8⟩
  have HA : Hid ((0 ≤ p0 ∧ p0 ≤ 255) ∧ (0 ≤ p1 ∧ p1 ≤ 255) ∧ (0 ≤ p2 ∧ p2 ≤ 255) ∧ (0 ≤ p3 ∧ p3 ≤ 255) ∧ (0 ≤ p4 ∧ p4 ≤ 255) ∧ (0 ≤ p5 ∧ p5 ≤ 255) ∧ (0 ≤ p6 ∧ p6 ≤ 255) ∧ (0 ≤ p7 ∧ p7 ≤ 255) ∧ (0 ≤ p8 ∧ p8 ≤ 255)) := ⟨⟨ha0, hb0⟩, ⟨ha1, hb1⟩, ⟨ha2, hb2⟩, ⟨ha3, hb3⟩, ⟨ha4, hb4⟩, ⟨ha5, hb5⟩, ⟨ha6, hb6⟩, ⟨ha7, hb7⟩, ⟨ha8, hb8⟩⟩
  clear hec hn0 ha0 hb0 hn1 ha1 hb1 hn2 ha2 hb2 hn3 ha3 hb3 hn4 ha4 hb4 hn5 ha5 hb5 hn6 ha6 hb6 hn7 ha7 hb7 hn8 ha8 hb8
  have HQ : Hid ((Ev.mk N G Pr x0 x1 x2 x3 x4 x5 d0 d1 d2 d3 d4 d5 d6 d7 d8 n0 n1 n2 n3 n4 n5 n6 n7 n8 sc fo pe).Quo r0 r1 r2 r3 r4 r5 r6 r7 r8) := hq
  have HFT : Hid ((Ev.mk N G Pr x0 x1 x2 x3 x4 x5 d0 d1 d2 d3 d4 d5 d6 d7 d8 n0 n1 n2 n3 n4 n5 n6 n7 n8 sc fo pe).Fit) := hf
  have HLL : Hid (L = [floatOfInt .f64 N, r0, floatOfInt .f64 G, r1, r2, r3, r4, r5, r6, r7, r8, floatOfInt .f64 x0, floatOfInt .f64 x1, floatOfInt .f64 x2, floatOfInt .f64 x3, floatOfInt .f64 x4, floatOfInt .f64 x5, scanB sc, floatOfInt .f64 Pr]) := hL
  have H0 : Hid (floatBits .add .f64 (L.getD 0 0) one64 = some (mm 0)) := h0
  have HM : Hid (∀ i, 0 < i → i < 19 → L.getD i 0 = mm i) := hm
  have HBB : Hid (∀ i, i < 19 → floatBits .add .f64 (mm i) one64 = some (bb i)) := hbb
  have HQQ : Hid (∀ i, i < 19 → floatBits .quo .f64 one64 (bb i) = some (qq i)) := hqq
  clear hq hf hL h0 hm hbb hqq
  obtain ⟨ca, hca⟩ : ∃ ca, ca = arr (yv b0 F I) := ⟨_, rfl⟩
  obtain ⟨cb, hcb⟩ : ∃ cb, cb = arr (cpB (yv b0 F I) 0) := ⟨_, rfl⟩
  obtain ⟨l1, hl1⟩ : ∃ l1, l1 = (List.range' 1 19).map (yv b0 F I) := ⟨_, rfl⟩
  obtain ⟨l2, hl2⟩ : ∃ l2, l2 = (List.range' 20 19).map (yv b0 F I) := ⟨_, rfl⟩
  obtain ⟨l3, hl3⟩ : ∃ l3, l3 = (List.range' 39 19).map (yv b0 F I) := ⟨_, rfl⟩
  have HB : Hid (Ybad.prog.built 39 [(0, .bool b0), (1, .agg l1.toArray), (2, .agg l2.toArray), (3, .agg l3.toArray)] = some cb) := by
    rw [hl1, hl2, hl3, hcb]; exact built39 b0 F I
  have Y0 : Yd ((w.alloc (.cells ca 28)).alloc (.cells ec.toArray 33)) w.heap.size (yv b0 F I) := by rw [hca]; exact (Yd.new w _ 28).alloc _
  have R1 : Hid (((w.alloc (.cells ca 28)).alloc (.cells ec.toArray 33)).rangeAt w.heap.size 1 l1) := by rw [hl1]; exact Y0.range 1 19 (by omega)
  have R2 : Hid (((w.alloc (.cells ca 28)).alloc (.cells ec.toArray 33)).rangeAt w.heap.size 20 l2) := by rw [hl2]; exact Y0.range 20 19 (by omega)
  have R3 : Hid (((w.alloc (.cells ca 28)).alloc (.cells ec.toArray 33)).rangeAt w.heap.size 39 l3) := by rw [hl3]; exact Y0.range 39 19 (by omega)
  have I1 : Hid ((Ybad.prog.info? 23).map (·.size) = some l1.length) := by rw [hl1]; exact info23
  have I2 : Hid ((Ybad.prog.info? 23).map (·.size) = some l2.length) := by rw [hl2]; exact info23
  have I3 : Hid ((Ybad.prog.info? 23).map (·.size) = some l3.length) := by rw [hl3]; exact info23
  have C0 : ((w.alloc (.cells ca 28)).alloc (.cells ec.toArray 33)).cell? ⟨w.heap.size, 0, none⟩ = some (.bool b0) := Y0.cell 0 (by omega)
  have HH : Hid (Held w (((w.alloc (.cells ca 28)).alloc (.cells ec.toArray 33)).alloc (.cells cb 39)) (yv b0 F I) ec (cpB (yv b0 F I) 0)) := by
    have hb1 := (Below.refl w.heap.size w).alloc (Nat.le_refl _) (.cells ca 28)
    have hb2 := hb1.alloc (by simp only [World.size_alloc]; omega) (.cells ec.toArray 33)
    refine ⟨Y0.alloc _, ?_, ?_, hb2.alloc (by simp only [World.size_alloc]; omega) _, ((hp.alloc _).alloc _).alloc _⟩
    · have := Yd.new ((w.alloc (.cells ca 28)).alloc (.cells ec.toArray 33)) (cpB (yv b0 F I) 0) 39
      rw [← hcb, World.size_alloc, World.size_alloc] at this
      exact this
    · refine World.rangeAt_alloc (fun j v hv => ?_) _
      rw [World.cell?_alloc_at _ _ _ _ (by rw [World.size_alloc]), Nat.zero_add]
      simpa using hv
  rw [← hca]
  clear Y0 hl1 hl2 hl3 hcb hca hp
  go_enter Ybad.func3, Ybad.ntmps3
  go_upto_region 1 with fail
  go_wp2_with (first
    | refine wpList_load_mid (by rfl) 23 (.tmp 20) (by rfl) w.heap.size 1 (by rfl) l1 _ R1.out Ybad.underlying23 (by rfl) I1.out ?_
    | refine wpList_load_mid (by rfl) 23 (.tmp 22) (by rfl) w.heap.size 20 (by rfl) l2 _ R2.out Ybad.underlying23 (by rfl) I2.out ?_
    | (refine wpList_load_mid (by rfl) 23 (.tmp 24) (by rfl) w.heap.size 39 (by rfl) l3 _ R3.out Ybad.underlying23 (by rfl) I3.out ?_
       refine Hid.out ?_))
  unfold Hid
  refine wpList_build (by rfl) 39 #[(0, .tmp 19), (1, .tmp 21), (2, .tmp 23), (3, .tmp 25)] (by rfl) #[(0, .bool b0), (1, .agg l1.toArray), (2, .agg l2.toArray), (3, .agg l3.toArray)] (by simp only [List.map_toArray, List.map_cons, List.map_nil]; rfl) cb HB.out ?_
  go_upto_region 2 with fail
  clear R1 R2 R3 I1 I2 I3 C0 HB
  generalize ((w.alloc (.cells ca 28)).alloc (.cells ec.toArray 33)).alloc (.cells cb 39) = wa at *
  go_wp2_with fail
  go_loopg [8] 64 (fun g i wr => ∃ k : Nat, k + g = 64 ∧ i = .int .i64 k ∧ Held w wr (yv b0 F I) ec (cpB (yv b0 F I) k))
  case atStart => exact ⟨0, by omega, rfl, HH.out⟩
  case round =>
    clear HH
    obtain ⟨k, hk, rfl, h1⟩ := hrel
    have H1 : Hid (Held w wr (yv b0 F I) ec (cpB (yv b0 F I) k)) := h1
    have HK : Hid (k + gk = 64) := hk
    clear hk
    by_cases hlt : k < 64
    · have i1 : (0 : Int) ≤ (k : Int) := by omega
      have i2 : (k : Int) < 64 := by omega
      obtain ⟨z, hz⟩ := yv_int b0 F I k
      obtain ⟨x, hx⟩ := yv_x b0 F I k
      obtain ⟨t, ht⟩ := yv_t b0 F I k
      have HZ : Hid (yv b0 F I (58 + k * 3) = .int .i64 z) := hz
      have HX : Hid (yv b0 F I (58 + k * 3 + 1) = .float .f64 x) := hx
      have HT : Hid (yv b0 F I (58 + k * 3 + 2) = .float .f64 t) := ht
      clear hz hx ht
      have c1 : wr.cell? ⟨w.heap.size, 58 + k * 3, none⟩ = some (.int .i64 z) := (h1.y0.cell (58 + k * 3) (by omega)).trans (by rw [HZ.out])
      have c2 := h1.y1.cell (58 + k * 3) (by omega)
      have f2 := h1.y1.free (58 + k * 3)
      clear h1
      go_upto_region 5 with fail
      go_region
      clear c1 c2 f2
      go_upto_region 6 with fail
      have H2 : Hid (Held w (wr.setCell ⟨w.heap.size + 1 + 1, 58 + k * 3, none⟩ (.int .i64 z)) (yv b0 F I) ec (upd (cpB (yv b0 F I) k) (58 + k * 3) (.int .i64 z))) := H1.out.set (58 + k * 3) (by omega) _
      clear H1
      generalize wr.setCell ⟨w.heap.size + 1 + 1, 58 + k * 3, none⟩ (.int .i64 z) = w1 at *
      have c1 : w1.cell? ⟨w.heap.size, 58 + k * 3 + 1, none⟩ = some (.float .f64 x) := (H2.out.y0.cell (58 + k * 3 + 1) (by omega)).trans (by rw [HX.out])
      have c2 := H2.out.y1.cell (58 + k * 3 + 1) (by omega)
      have f2 := H2.out.y1.free (58 + k * 3 + 1)
      go_region
      clear c1 c2 f2
      go_upto_region 7 with fail
      have H3 : Hid (Held w (w1.setCell ⟨w.heap.size + 1 + 1, 58 + k * 3 + 1, none⟩ (.float .f64 x)) (yv b0 F I) ec (upd (upd (cpB (yv b0 F I) k) (58 + k * 3) (.int .i64 z)) (58 + k * 3 + 1) (.float .f64 x))) := H2.out.set (58 + k * 3 + 1) (by omega) _
      clear H2
      generalize w1.setCell ⟨w.heap.size + 1 + 1, 58 + k * 3 + 1, none⟩ (.float .f64 x) = w2 at *
      have c1 : w2.cell? ⟨w.heap.size, 58 + k * 3 + 2, none⟩ = some (.float .f64 t) := (H3.out.y0.cell (58 + k * 3 + 2) (by omega)).trans (by rw [HT.out])
      have c2 := H3.out.y1.cell (58 + k * 3 + 2) (by omega)
      have f2 := H3.out.y1.free (58 + k * 3 + 2)
      go_region
      clear c1 c2 f2
      have H4 : Hid (Held w (w2.setCell ⟨w.heap.size + 1 + 1, 58 + k * 3 + 2, none⟩ (.float .f64 t)) (yv b0 F I) ec (cpB (yv b0 F I) (k + 1))) := (H3.out.set (58 + k * 3 + 2) (by omega) _).congr (fun c _ => by rw [← HZ.out, ← HX.out, ← HT.out]; exact cpB_step _ k c)
      clear H3
      generalize w2.setCell ⟨w.heap.size + 1 + 1, 58 + k * 3 + 2, none⟩ (.float .f64 t) = w3 at *
      go_wp2
      go_roundg (gk - 1)
      case measure => have := HK.out; omega
      case rel => exact ⟨k + 1, by have := HK.out; omega, by go_num, H4.out.drew.drew.drew⟩
    · obtain rfl : k = 64 := by have := HK.out; omega
      have H2 : Hid (Held w wr (yv b0 F I) ec (yv b0 F I)) := h1.congr (fun c hc => cpB_all _ c hc)
      clear h1 H1 hlt HK
      have H3 := H2.out.alloc (Obj.cells #[.int .i64 0, .int .u64 0, .int .u8 0, .int .i64 0, .int .u64 0, .int .u8 0, .int .u64 0, .int .u8 0, .int .u64 0, .int .u8 0, .int .u64 0, .int .u8 0, .int .u64 0, .int .u8 0, .int .u64 0, .int .u8 0, .int .u64 0, .int .u8 0, .int .u64 0, .int .u8 0, .int .i64 0, .int .i64 0, .int .i64 0, .int .i64 0, .int .i64 0, .int .i64 0, .bool false, .int .i64 0, .bool false, .bool false] 50)
      have T3 := there_z50 wr
      have HSZ : Hid (w.heap.size + 1 + 1 < wr.heap.size) := H2.out.y1.lt
      clear H2
      go_upto_region 11 with fail
      have HS : Hid (EvS w wr (yv b0 F I) ec N G Pr x0 x1 x2 x3 x4 x5 d0 d1 d2 d3 d4 d5 d6 d7 d8 p0 p1 p2 p3 p4 p5 p6 p7 p8 sc fo pe (wr.alloc (Obj.cells #[.int .i64 0, .int .u64 0, .int .u8 0, .int .i64 0, .int .u64 0, .int .u8 0, .int .u64 0, .int .u8 0, .int .u64 0, .int .u8 0, .int .u64 0, .int .u8 0, .int .u64 0, .int .u8 0, .int .u64 0, .int .u8 0, .int .u64 0, .int .u8 0, .int .u64 0, .int .u8 0, .int .i64 0, .int .i64 0, .int .i64 0, .int .i64 0, .int .i64 0, .int .i64 0, .bool false, .int .i64 0, .bool false, .bool false] 50))) := by
        have he := HEC.out
        exact ⟨H3.ev 0 _ (by rw [he]; rfl), H3.ev 1 _ (by rw [he]; rfl), H3.ev 2 _ (by rw [he]; rfl), H3.ev 3 _ (by rw [he]; rfl), H3.ev 4 _ (by rw [he]; rfl), H3.ev 5 _ (by rw [he]; rfl), H3.ev 6 _ (by rw [he]; rfl), H3.ev 7 _ (by rw [he]; rfl), H3.ev 8 _ (by rw [he]; rfl), H3.ev 9 _ (by rw [he]; rfl), H3.ev 10 _ (by rw [he]; rfl), H3.ev 11 _ (by rw [he]; rfl), H3.ev 12 _ (by rw [he]; rfl), H3.ev 13 _ (by rw [he]; rfl), H3.ev 14 _ (by rw [he]; rfl), H3.ev 15 _ (by rw [he]; rfl), H3.ev 16 _ (by rw [he]; rfl), H3.ev 17 _ (by rw [he]; rfl), H3.ev 18 _ (by rw [he]; rfl), H3.ev 19 _ (by rw [he]; rfl), H3.ev 20 _ (by rw [he]; rfl), H3.ev 21 _ (by rw [he]; rfl), H3.ev 22 _ (by rw [he]; rfl), H3.ev 23 _ (by rw [he]; rfl), H3.ev 24 _ (by rw [he]; rfl), H3.ev 25 _ (by rw [he]; rfl), H3.ev 26 _ (by rw [he]; rfl), H3.ev 27 _ (by rw [he]; rfl), H3.ev 28 _ (by rw [he]; rfl), H3.ev 29 _ (by rw [he]; rfl), H3, T3⟩
      clear H3 T3
      obtain ⟨wz, hwz⟩ : ∃ wz, wz = wr.alloc (Obj.cells #[.int .i64 0, .int .u64 0, .int .u8 0, .int .i64 0, .int .u64 0, .int .u8 0, .int .u64 0, .int .u8 0, .int .u64 0, .int .u8 0, .int .u64 0, .int .u8 0, .int .u64 0, .int .u8 0, .int .u64 0, .int .u8 0, .int .u64 0, .int .u8 0, .int .u64 0, .int .u8 0, .int .i64 0, .int .i64 0, .int .i64 0, .int .i64 0, .int .i64 0, .int .i64 0, .bool false, .int .i64 0, .bool false, .bool false] 50) := ⟨_, rfl⟩
      rw [← hwz] at HS ⊢
      have HWZ : Hid (wz.heap.size = wr.heap.size + 1) := by rw [hwz, World.size_alloc]; rfl
      clear hwz
      refine region11 (n0 := n0) (n1 := n1) (n2 := n2) (n3 := n3) (n4 := n4) (n5 := n5) (n6 := n6) (n7 := n7) (n8 := n8) HN.out.1 (HA.out.1).1 (HA.out.1).2 HN.out.2.1 (HA.out.2.1).1 (HA.out.2.1).2 HN.out.2.2.1 (HA.out.2.2.1).1 (HA.out.2.2.1).2 HN.out.2.2.2.1 (HA.out.2.2.2.1).1 (HA.out.2.2.2.1).2 HN.out.2.2.2.2.1 (HA.out.2.2.2.2.1).1 (HA.out.2.2.2.2.1).2 HN.out.2.2.2.2.2.1 (HA.out.2.2.2.2.2.1).1 (HA.out.2.2.2.2.2.1).2 HN.out.2.2.2.2.2.2.1 (HA.out.2.2.2.2.2.2.1).1 (HA.out.2.2.2.2.2.2.1).2 HN.out.2.2.2.2.2.2.2.1 (HA.out.2.2.2.2.2.2.2.1).1 (HA.out.2.2.2.2.2.2.2.1).2 HN.out.2.2.2.2.2.2.2.2 (HA.out.2.2.2.2.2.2.2.2).1 (HA.out.2.2.2.2.2.2.2.2).2 _ _ _ HS.out _ _ _ _ _ _ _ _ _ _ _ _ _ _ _ _ _ _ _ _ _ _ _ _ _ _ _ _ _ _ _ _ _ _ _ _ _ _ _ _ _ _ _ _ _ _ _ _ _ _ _ _ _ _ _ _ _ _ _ _ _ _ _ _ _ _ _ _ _ _ _ _ _ _ _ _ _ _ _ _ _ _ _ _ _ _ _ _ _ _ _ _ _ _ _ _ _ _ _ _ _ _ _ _ _ _ _ _ _ _ _ _ _ _ _ _ _ _ _ _ _ _ _ _ _ _ _ _ _ _ _ _ _ _ _ _ _ _ _ _ _ _ _ _ _ _ _ _ _ _ _ _ _ _ _ _ _ _ _ _ _ _ _ _ _ _ _ _ _ _ _ _ _ _ _ _ _ _ _ _ _ _ _ _ _ _ _ _ _ _ _ _ _ _ _ _ _ _ _ _ _ _ _ _ _ _ _ _ _ _ _ _ _ _ _ _ _ _ _ _ _ _ _ _ _ _ _ _ _ _ _ _ _ _ _ _ _ _ _ _ _ _ _ _ _ _ _ _ _ _ _ _ _ _ _ _ _ _ _ _ _ _ _ _ _ _ _ _ _ _ _ _ _ _ _ _ _ _ _ _ _ _ _ _ _ _ _ _ _ _ _ _ _ _ _ _ _ _ _ _ _ _ _ _ _ _ _ _ _ _ _ _ _ _ _ _ _ _ _ _ _ _ _ _ _ _ _ _ _ _ _ _ _ _ _ _ _ _ _ _ _ _ _ _ _ _ _ _ _ _ _ _ _ _ _ _ _ _ _ _ _ _ _ _ _ _ _ _ _ _ _ _ _ _ _ _ _ _ _ _ _ _ _ _ _ _ _ _ _ _ _ _ _ _ _ _ _ _ _ _ _ _ _ _ ?_
      · clear HS HWZ
        intro a wc u66 u67 u68 u69 u70 u71 u72 u73 u74 u75 u76 u77 u78 u79 u80 u81 u82 u83 u84 u85 u86 u87 u88 u89 u90 u91 u92 u93 u94 u95 u96 u97 u98 u99 u100 u101 u102 u103 u104 u105 u106 u107 u108 u109 u110 u111 u112 u113 u114 u115 u116 u117 u118 u119 u120 u121 u122 u123 u124 u125 u126 u127 u128 u129 u130 u131 u132 u133 u134 u135 u136 u137 u138 u139 u140 u141 u142 u143 u144 u145 u146 u147 u148 u149 u150 u151 u152 u153 u154 u155 u156 hla h1 h2 h3
        obtain ⟨ev, hev⟩ : ∃ ev : List Value, ev = [.int .i64 N, .int .u64 d0, .int .u8 ((n0 : Nat) : Int), .int .i64 G, .int .u64 d1, .int .u8 ((n1 : Nat) : Int), .int .u64 d2, .int .u8 ((n2 : Nat) : Int), .int .u64 d3, .int .u8 ((n3 : Nat) : Int), .int .u64 d4, .int .u8 ((n4 : Nat) : Int), .int .u64 d5, .int .u8 ((n5 : Nat) : Int), .int .u64 d6, .int .u8 ((n6 : Nat) : Int), .int .u64 d7, .int .u8 ((n7 : Nat) : Int), .int .u64 d8, .int .u8 ((n8 : Nat) : Int), .int .i64 x0, .int .i64 x1, .int .i64 x2, .int .i64 x3, .int .i64 x4, .int .i64 x5, .bool sc, .int .i64 Pr, .bool fo, .bool pe] := ⟨_, rfl⟩
        rw [← hev] at h3
        have HEV : Hid (ev = [.int .i64 N, .int .u64 d0, .int .u8 ((n0 : Nat) : Int), .int .i64 G, .int .u64 d1, .int .u8 ((n1 : Nat) : Int), .int .u64 d2, .int .u8 ((n2 : Nat) : Int), .int .u64 d3, .int .u8 ((n3 : Nat) : Int), .int .u64 d4, .int .u8 ((n4 : Nat) : Int), .int .u64 d5, .int .u8 ((n5 : Nat) : Int), .int .u64 d6, .int .u8 ((n6 : Nat) : Int), .int .u64 d7, .int .u8 ((n7 : Nat) : Int), .int .u64 d8, .int .u8 ((n8 : Nat) : Int), .int .i64 x0, .int .i64 x1, .int .i64 x2, .int .i64 x3, .int .i64 x4, .int .i64 x5, .bool sc, .int .i64 Pr, .bool fo, .bool pe]) := hev
        have hel : ev.length = 30 := by rw [hev]; rfl
        have hst : (storeCells ⟨wr.heap.size, 0, none⟩ ev).run Ybad.prog wc = .ok () (wc.setCells wr.heap.size 0 ev) := by rw [hev]; exact store_ev wc wr.heap.size h2
        have HR : Hid (wc.rangeAt a 0 ev) := h3
        have HI : Hid ((Ybad.prog.info? 50).map (·.size) = some ev.length) := by rw [hev]; show _ = some 30; kernel_rfl
        have HP0 : Hid (HeldP w (wc.setCells wr.heap.size 0 ev) (yv b0 F I) ec (yv b0 F I) a wr.heap.size ev) :=
          ⟨h1.put wr.heap.size HSZ.out ev, World.rangeAt_setCells_apart h3 _ _ _ (Or.inl (by omega)), World.rangeAt_setCells_same wc _ _ _ (by rw [hel]; exact h2)⟩
        have HLA : Hid (wr.heap.size < a) := hla
        have HLC : Hid (a < wc.heap.size) := World.block_lt_of_cell? wc _ (h3 0 (.int .i64 N) (by rw [hev]; rfl))
        clear hla h1 h2 h3 hev
        go_upto_region 13 with (refine wpList_load_mid (by rfl) 50 (.tmp 11) (by rfl) a 0 (by rfl) ev _ HR.out Ybad.underlying50 (by rfl) HI.out ?_)
        have HLD : Hid (a < (wc.setCells wr.heap.size 0 ev).heap.size) := by rw [size_setCells]; exact HLC.out
        clear hst hel HR HI HLC
        generalize wc.setCells wr.heap.size 0 ev = wd at *
        go_cut [9] from 157 to 157 (fun v wx => v = .pointer (some ⟨a, 0, none⟩) ∧ wx = wd)
        case first =>
          go_wp2
          go_meet
          case rel => exact ⟨rfl, rfl⟩
        case rest =>
          obtain ⟨rfl, rfl⟩ := hcut
          refine use_hyp (by assumption) ?_
          exact tail14 b0 F I w _ ec a wr.heap.size ev mm bb qq N G Pr x0 x1 x2 x3 x4 x5 d0 d1 d2 d3 d4 d5 d6 d7 d8 p0 p1 p2 p3 p4 p5 p6 p7 p8 n0 n1 n2 n3 n4 n5 n6 n7 n8 sc fo pe r0 r1 r2 r3 r4 r5 r6 r7 r8 L HEC HEV HQ HFT HLL H0 HM HBB HQQ HP0 HSZ HLA HLD _ _ _ _ _ _ _ _ _ _ _ _ _ _ _ _ _ _ _ _ _ _ _ _ _ _ _ _ _ _ _ _ _ _ _ _ _ _ _ _ _ _ _ _ _ _ _ _ _ _ _ _ _ _ _ _ _ _ _ _ _ _ _ _ _ _ _ _ _ _ _ _ _ _ _ _ _ _ _ _ _ _ _ _ _ _ _ _ _ _ _ _ _ _ _ _ _ _ _ _ _ _ _ _ _ _ _ _ _ _ _ _ _ _ _ _ _ _ _ _ _ _ _ _ _ _ _ _ _ _ _ _ _ _ _ _ _ _ _ _ _ _ _ _ _ _ _ _ _ _ _ _ _ _ _ _ _ _ _ _ _ _ _ _ _ _ _ _ _ _ _ _ _ _ _ _ _ _ _ _ _ _ _ _ _ _ _ _ _ _ _ _ _ _ _ _ _ _ _ _ _ _ _ _ _ _ _ _ _ _ _ _ _ _ _ _ _ _ _ _ _ _ _ _ _ _ _ _ _ _ _ _ _ _ _ _ _ _ _ _ _ _ _ _ _ _ _ _ _ _ _ _ _ _ _ _ _ _ _ _ _ _ _ _ _ _ _ _ _ _ _ _ _ _ _ _ _ _ _ _ _ _ _ _ _ _ _ _ _ _ _ _ _ _ _ _ _ _ _ _ _ _ _ _ _ _ _ _ _ _ _ _ _ _ _ _ _ _ _ _ _ _ _ _ _ _ _ _ _ _ _ _ _ _ _ _ _ _ _ _ _ _ _ _ _ _ _ _ _ _ _ _ _ _ _ _ _ _ _ _ _ _ _ _ _ _ _ _ _ _ _ _ _ _ _ _ _ _ _ _ _ _ _ _ _ _ _ _ _ _ _ _ _ _ _ _ _ _ _
end Go.Proofs.YbulkdhacDoor
