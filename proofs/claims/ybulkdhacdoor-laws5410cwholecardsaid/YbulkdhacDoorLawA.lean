/-
  The law where there is no event before.
-/
import Derived.Test.YbulkdhacDoorHeld
namespace Go.Proofs.YbulkdhacDoor
open Go.RowKit Floats
attribute [local go_sem] run_store_flt alloc_drewN setCell_drewN

theorem info23 : (Ybad.prog.info? 23).map (·.size) = some 19 := by kernel_rfl

set_option maxRecDepth 20000 in
set_option maxHeartbeats 4000000 in
theorem law_nil (b0 : Bool) (F : Nat → Nat) (I : Nat → Int) (ec : List Value) (w : World) (hp : Pow w) :
    Calls Ybad.prog 3 #[.agg (arr (yv b0 F I)), .bool false, .agg ec.toArray] w fun e w' => e = .returned (.bool true) ∧ Below w.heap.size w w' := by
  obtain ⟨ca, hca⟩ : ∃ ca, ca = arr (yv b0 F I) := ⟨_, rfl⟩
  obtain ⟨cb, hcb⟩ : ∃ cb, cb = arr (cpB (yv b0 F I) 0) := ⟨_, rfl⟩
  obtain ⟨l1, hl1⟩ : ∃ l1, l1 = (List.range' 1 19).map (yv b0 F I) := ⟨_, rfl⟩
  obtain ⟨l2, hl2⟩ : ∃ l2, l2 = (List.range' 20 19).map (yv b0 F I) := ⟨_, rfl⟩
  obtain ⟨l3, hl3⟩ : ∃ l3, l3 = (List.range' 39 19).map (yv b0 F I) := ⟨_, rfl⟩
  have HB : Hid (Ybad.prog.built 39 [(0, .bool b0), (1, .agg l1.toArray), (2, .agg l2.toArray), (3, .agg l3.toArray)] = some cb) := by
    rw [hl1, hl2, hl3, hcb]; exact built39 b0 F I
  have Y0 : Yd ((w.alloc (.cells ca 28)).alloc (.cells ec.toArray 33)) w.heap.size (yv b0 F I) := by rw [hca]; exact (Yd.new w _ 28).alloc _
  have R1 : Hid (((w.alloc (.cells ca 28)).alloc (.cells ec.toArray 33)).rangeAt w.heap.size 1 l1) := by rw [hl1]; exact Y0.range 1 19 (by omega)
  have R2 : Hid (((w.alloc (.cells ca 28)).alloc (.cells ec.toArray 33)).rangeAt w.heap.size 20 l2) := by rw [hl2]; exact Y0.range 20 19 (by omega)
  have R3 : Hid (((w.alloc (.cells ca 28)).alloc (.cells ec.toArray 33)).rangeAt w.heap.size 39 l3) := by rw [hl3]; exact Y0.range 39 19 (by omega)
  have I1 : Hid ((Ybad.prog.info? 23).map (·.size) = some l1.length) := by rw [hl1]; exact info23
  have I2 : Hid ((Ybad.prog.info? 23).map (·.size) = some l2.length) := by rw [hl2]; exact info23
  have I3 : Hid ((Ybad.prog.info? 23).map (·.size) = some l3.length) := by rw [hl3]; exact info23
  have C0 : ((w.alloc (.cells ca 28)).alloc (.cells ec.toArray 33)).cell? ⟨w.heap.size, 0, none⟩ = some (.bool b0) := Y0.cell 0 (by omega)
  have HH : Hid (Held w (((w.alloc (.cells ca 28)).alloc (.cells ec.toArray 33)).alloc (.cells cb 39)) (yv b0 F I) ec (cpB (yv b0 F I) 0)) := by
    have hb1 := (Below.refl w.heap.size w).alloc (Nat.le_refl _) (.cells ca 28)
    have hb2 := hb1.alloc (by simp only [World.size_alloc]; omega) (.cells ec.toArray 33)
    refine ⟨Y0.alloc _, ?_, ?_, hb2.alloc (by simp only [World.size_alloc]; omega) _, ((hp.alloc _).alloc _).alloc _⟩
    · have := Yd.new ((w.alloc (.cells ca 28)).alloc (.cells ec.toArray 33)) (cpB (yv b0 F I) 0) 39
      rw [← hcb, World.size_alloc, World.size_alloc] at this
      exact this
    · refine World.rangeAt_alloc (fun j v hv => ?_) _
      rw [World.cell?_alloc_at _ _ _ _ (by rw [World.size_alloc]), Nat.zero_add]
      simpa using hv
  rw [← hca]
  clear Y0 hl1 hl2 hl3 hcb hca hp
  go_enter Ybad.func3, Ybad.ntmps3
  go_upto_region 1 with fail
  go_wp2_with (first
    | refine wpList_load_mid (by rfl) 23 (.tmp 20) (by rfl) w.heap.size 1 (by rfl) l1 _ R1.out Ybad.underlying23 (by rfl) I1.out ?_
    | refine wpList_load_mid (by rfl) 23 (.tmp 22) (by rfl) w.heap.size 20 (by rfl) l2 _ R2.out Ybad.underlying23 (by rfl) I2.out ?_
    | (refine wpList_load_mid (by rfl) 23 (.tmp 24) (by rfl) w.heap.size 39 (by rfl) l3 _ R3.out Ybad.underlying23 (by rfl) I3.out ?_
       refine Hid.out ?_))
  unfold Hid
  refine wpList_build (by rfl) 39 #[(0, .tmp 19), (1, .tmp 21), (2, .tmp 23), (3, .tmp 25)] (by rfl) #[(0, .bool b0), (1, .agg l1.toArray), (2, .agg l2.toArray), (3, .agg l3.toArray)] (by simp only [List.map_toArray, List.map_cons, List.map_nil]; rfl) cb HB.out ?_
  go_upto_region 2 with fail
  clear R1 R2 R3 I1 I2 I3 C0 HB
  generalize ((w.alloc (.cells ca 28)).alloc (.cells ec.toArray 33)).alloc (.cells cb 39) = wa at *
  go_wp2_with fail
  go_loopg [8] 64 (fun g i wr => ∃ k : Nat, k + g = 64 ∧ i = .int .i64 k ∧ Held w wr (yv b0 F I) ec (cpB (yv b0 F I) k))
  case atStart => exact ⟨0, by omega, rfl, HH.out⟩
  case round =>
    clear HH
    obtain ⟨k, hk, rfl, h1⟩ := hrel
    have H1 : Hid (Held w wr (yv b0 F I) ec (cpB (yv b0 F I) k)) := h1
    have HK : Hid (k + gk = 64) := hk
    clear hk
    by_cases hlt : k < 64
    · have i1 : (0 : Int) ≤ (k : Int) := by omega
      have i2 : (k : Int) < 64 := by omega
      obtain ⟨z, hz⟩ := yv_int b0 F I k
      obtain ⟨x, hx⟩ := yv_x b0 F I k
      obtain ⟨t, ht⟩ := yv_t b0 F I k
      have HZ : Hid (yv b0 F I (58 + k * 3) = .int .i64 z) := hz
      have HX : Hid (yv b0 F I (58 + k * 3 + 1) = .float .f64 x) := hx
      have HT : Hid (yv b0 F I (58 + k * 3 + 2) = .float .f64 t) := ht
      clear hz hx ht
      have c1 : wr.cell? ⟨w.heap.size, 58 + k * 3, none⟩ = some (.int .i64 z) := (h1.y0.cell (58 + k * 3) (by omega)).trans (by rw [HZ.out])
      have c2 := h1.y1.cell (58 + k * 3) (by omega)
      have f2 := h1.y1.free (58 + k * 3)
      clear h1
      go_upto_region 5 with fail
      go_region
      clear c1 c2 f2
      go_upto_region 6 with fail
      have H2 : Hid (Held w (wr.setCell ⟨w.heap.size + 1 + 1, 58 + k * 3, none⟩ (.int .i64 z)) (yv b0 F I) ec (upd (cpB (yv b0 F I) k) (58 + k * 3) (.int .i64 z))) := H1.out.set (58 + k * 3) (by omega) _
      clear H1
      generalize wr.setCell ⟨w.heap.size + 1 + 1, 58 + k * 3, none⟩ (.int .i64 z) = w1 at *
      have c1 : w1.cell? ⟨w.heap.size, 58 + k * 3 + 1, none⟩ = some (.float .f64 x) := (H2.out.y0.cell (58 + k * 3 + 1) (by omega)).trans (by rw [HX.out])
      have c2 := H2.out.y1.cell (58 + k * 3 + 1) (by omega)
      have f2 := H2.out.y1.free (58 + k * 3 + 1)
      go_region
      clear c1 c2 f2
      go_upto_region 7 with fail
      have H3 : Hid (Held w (w1.setCell ⟨w.heap.size + 1 + 1, 58 + k * 3 + 1, none⟩ (.float .f64 x)) (yv b0 F I) ec (upd (upd (cpB (yv b0 F I) k) (58 + k * 3) (.int .i64 z)) (58 + k * 3 + 1) (.float .f64 x))) := H2.out.set (58 + k * 3 + 1) (by omega) _
      clear H2
      generalize w1.setCell ⟨w.heap.size + 1 + 1, 58 + k * 3 + 1, none⟩ (.float .f64 x) = w2 at *
      have c1 : w2.cell? ⟨w.heap.size, 58 + k * 3 + 2, none⟩ = some (.float .f64 t) := (H3.out.y0.cell (58 + k * 3 + 2) (by omega)).trans (by rw [HT.out])
      have c2 := H3.out.y1.cell (58 + k * 3 + 2) (by omega)
      have f2 := H3.out.y1.free (58 + k * 3 + 2)
      go_region
      clear c1 c2 f2
      have H4 : Hid (Held w (w2.setCell ⟨w.heap.size + 1 + 1, 58 + k * 3 + 2, none⟩ (.float .f64 t)) (yv b0 F I) ec (cpB (yv b0 F I) (k + 1))) := (H3.out.set (58 + k * 3 + 2) (by omega) _).congr (fun c _ => by rw [← HZ.out, ← HX.out, ← HT.out]; exact cpB_step _ k c)
      clear H3
      generalize w2.setCell ⟨w.heap.size + 1 + 1, 58 + k * 3 + 2, none⟩ (.float .f64 t) = w3 at *
      go_wp2
      go_roundg (gk - 1)
      case measure => have := HK.out; omega
      case rel => exact ⟨k + 1, by have := HK.out; omega, by go_num, H4.out.drew.drew.drew⟩
    · obtain rfl : k = 64 := by have := HK.out; omega
      have H2 : Hid (Held w wr (yv b0 F I) ec (yv b0 F I)) := h1.congr (fun c hc => cpB_all _ c hc)
      clear h1 H1 hlt HK
      go_wp2_with fail
      have H3 := H2.out.alloc (.cells #[.int .i64 0, .int .u64 0, .int .u8 0, .int .i64 0, .int .u64 0, .int .u8 0, .int .u64 0, .int .u8 0, .int .u64 0, .int .u8 0, .int .u64 0, .int .u8 0, .int .u64 0, .int .u8 0, .int .u64 0, .int .u8 0, .int .u64 0, .int .u8 0, .int .u64 0, .int .u8 0, .int .i64 0, .int .i64 0, .int .i64 0, .int .i64 0, .int .i64 0, .int .i64 0, .bool false, .int .i64 0, .bool false, .bool false] 50)
      clear H2
      refine (set_nil _ _ _ H3.y1).mono ?_
      rintro e ws ⟨rfl, hy, hg⟩
      have H4 : Hid (Held w ws (yv b0 F I) ec (nilB (yv b0 F I))) := H3.grown hg hy
      clear H3 hy hg
      go_wp2_with fail
      go_loopg [12] 64 (fun g i wr => ∃ k : Nat, k + g = 64 ∧ i = .int .i64 k ∧ Held w wr (yv b0 F I) ec (nilB (yv b0 F I)))
      case atStart => exact ⟨0, by omega, rfl, H4.out⟩
      case round =>
        clear H4
        obtain ⟨k, hk, rfl, h1⟩ := hrel
        have H1 : Hid (Held w wr (yv b0 F I) ec (nilB (yv b0 F I))) := h1
        have HK : Hid (k + gk = 64) := hk
        clear hk
        by_cases hlt : k < 64
        · have i1 : (0 : Int) ≤ (k : Int) := by omega
          have i2 : (k : Int) < 64 := by omega
          obtain ⟨x, hx⟩ := yv_x b0 F I k
          obtain ⟨t, ht⟩ := yv_t b0 F I k
          have c1 : wr.cell? ⟨w.heap.size + 1 + 1, 58 + k * 3, none⟩ = some (.int .i64 (-1)) := (h1.y1.cell (58 + k * 3) (by omega)).trans (by rw [nilB_hi _ _ (by omega), recN_f _ _ hlt])
          have c2 : wr.cell? ⟨w.heap.size + 1 + 1, 58 + k * 3 + 1, none⟩ = some (.float .f64 x) := (h1.y1.cell (58 + k * 3 + 1) (by omega)).trans (by rw [nilB_hi _ _ (by omega), recN_x, hx])
          have c3 : wr.cell? ⟨w.heap.size + 1 + 1, 58 + k * 3 + 2, none⟩ = some (.float .f64 t) := (h1.y1.cell (58 + k * 3 + 2) (by omega)).trans (by rw [nilB_hi _ _ (by omega), recN_t, ht])
          have c4 : wr.cell? ⟨w.heap.size, 58 + k * 3 + 1, none⟩ = some (.float .f64 x) := (h1.y0.cell (58 + k * 3 + 1) (by omega)).trans (by rw [hx])
          have c5 : wr.cell? ⟨w.heap.size, 58 + k * 3 + 2, none⟩ = some (.float .f64 t) := (h1.y0.cell (58 + k * 3 + 2) (by omega)).trans (by rw [ht])
          clear h1 hx ht
          go_upto_region 18 with fail
          go_quiet ((go_at_call 6; exact Calls.quiet_of_same (same_any _ _)))
          clear c1 c2 c3 c4 c5
          go_wp2
          go_roundg (gk - 1)
          case measure => have := HK.out; omega
          case rel => exact ⟨k + 1, by have := HK.out; omega, by go_num, H1.out.drewN _⟩
        · obtain rfl : k = 64 := by have := HK.out; omega
          have c0 : wr.cell? ⟨w.heap.size + 1 + 1, 0, none⟩ = some (.bool true) := (h1.y1.cell 0 (by omega)).trans (by rw [nilB_0])
          clear h1 HK hlt
          go_wp2_with fail
          clear c0
          go_loopg [13] 19 (fun g i wr => ∃ k : Nat, k + g = 19 ∧ i = .int .i64 k ∧ Held w wr (yv b0 F I) ec (nilB (yv b0 F I)))
          case atStart => exact ⟨0, by omega, rfl, H1.out⟩
          case round =>
            clear H1
            obtain ⟨k, hk, rfl, h1⟩ := hrel
            have H1 : Hid (Held w wr (yv b0 F I) ec (nilB (yv b0 F I))) := h1
            have HK : Hid (k + gk = 19) := hk
            clear hk
            by_cases hlt : k < 19
            · have i1 : (0 : Int) ≤ (k : Int) := by omega
              have i2 : (k : Int) < 19 := by omega
              obtain ⟨x, hx⟩ := yv_f b0 F I (1 + k) (by omega) (by omega)
              obtain ⟨z, hz⟩ := yv_f b0 F I (20 + k) (by omega) (by omega)
              obtain ⟨t, ht⟩ := yv_f b0 F I (39 + k) (by omega) (by omega)
              have c1 : wr.cell? ⟨w.heap.size + 1 + 1, 1 + k, none⟩ = some (.float .f64 x) := (h1.y1.cell (1 + k) (by omega)).trans (by rw [nilB_mid _ _ (by omega) (by omega) (by omega), hx])
              have c2 : wr.cell? ⟨w.heap.size + 1 + 1, 20 + k, none⟩ = some (.float .f64 z) := (h1.y1.cell (20 + k) (by omega)).trans (by rw [nilB_mid _ _ (by omega) (by omega) (by omega), hz])
              have c4 : wr.cell? ⟨w.heap.size, 1 + k, none⟩ = some (.float .f64 x) := (h1.y0.cell (1 + k) (by omega)).trans (by rw [hx])
              have c5 : wr.cell? ⟨w.heap.size, 20 + k, none⟩ = some (.float .f64 z) := (h1.y0.cell (20 + k) (by omega)).trans (by rw [hz])
              have HX : Hid (yv b0 F I (39 + k) = .float .f64 t) := ht
              clear h1 hx ht hz
              go_upto_region 26 with fail
              go_quiet ((go_at_call 6; exact Calls.quiet_of_same (same_any _ _)))
              clear c1 c2 c4 c5
              by_cases h0 : k = 0
              · subst h0
                have c1 : wr.cell? ⟨w.heap.size + 1 + 1, 39, none⟩ = some (.float .f64 4604418534313441775) := (H1.out.y1.cell 39 (by omega)).trans (by rw [nilB_39]; rfl)
                have e1 : (FloatKind.f64.format.order 4604418534313441775 4604418534313441775 != some .eq) = false := by kernel_rfl
                go_wp2
                go_roundg (gk - 1)
                case measure => have := HK.out; omega
                case rel => exact ⟨0 + 1, by have := HK.out; omega, by go_num, H1.out.drewN _⟩
              · have H2 : Hid (Held w (wr.drewN nq) (yv b0 F I) ec (nilB (yv b0 F I))) := H1.out.drewN nq
                clear H1
                generalize wr.drewN nq = wq at *
                have H1 : Hid (Held w wq (yv b0 F I) ec (nilB (yv b0 F I))) := H2
                clear H2
                have c1 : wq.cell? ⟨w.heap.size + 1 + 1, 39 + k, none⟩ = some (.float .f64 t) := (H1.out.y1.cell (39 + k) (by omega)).trans (by rw [nilB_mid _ _ (by omega) (by omega) (by omega), HX.out])
                have c2 : wq.cell? ⟨w.heap.size, 39 + k, none⟩ = some (.float .f64 t) := (H1.out.y0.cell (39 + k) (by omega)).trans (by rw [HX.out])
                have k0 : (k : Int) ≠ 0 := by omega
                go_upto_region 31 with fail
                go_quiet ((go_at_call 6; exact Calls.quiet_of_same (same_any _ _)))
                clear c1 c2
                go_wp2
                go_roundg (gk - 1)
                case measure => have := HK.out; omega
                case rel => exact ⟨k + 1, by have := HK.out; omega, by go_num, H1.out.drewN _⟩
            · obtain rfl : k = 19 := by have := HK.out; omega
              clear h1 HK hlt
              go_wp2
              go_ret
              exact ⟨rfl, H1.out.bel⟩
end Go.Proofs.YbulkdhacDoor
