/-
  figures: the nineteen figures of an event.
-/
import Derived.Test.YbulkdhacDoorFigs
namespace Go.Proofs.YbulkdhacDoor
open Go.RowKit Floats
theorem figs_results (W : World) (s : Nat) (vs : List Value) (hl : vs.length = 19) (T : W.there s 0 19) (t : Array Value) (ht : t[2]? = some (.pointer (some ⟨s, 0, none⟩))) :
    (results Ybad.f11 t).run Ybad.prog (W.setCells s 0 vs) = .ok (.agg vs.toArray) (W.setCells s 0 vs) := by
  have hR := run_loadVar_mid (P := Ybad.prog) (W.setCells s 0 vs) s 0 23 vs _ (World.rangeAt_setCells_same W s 0 vs (by rw [hl]; exact T)) Ybad.underlying23 rfl (by rw [hl]; kernel_rfl)
  simp [results, Ybad.results11, ht, hR, asAddr]

theorem float_below (d : Int) (n r : Nat) (hn : n < 20) (hr : floatBits .quo .f64 (floatOfInt .f64 d) (floatOfInt .f64 (p10 n)) = some r) (w : World) (hp : Pow w) :
    Calls Ybad.prog 16 #[.agg #[.int .u64 d, .int .u8 n]] w fun e w' => e = .returned (.float .f64 r) ∧ Below w.heap.size w w' := by
  refine (float_any d n r hn hr w hp).mono ?_
  rintro en w' ⟨rfl, c, k, rfl⟩
  have h1 := Below.alloc (Below.refl w.heap.size w) (Nat.le_refl _) (.cells c 42)
  exact ⟨rfl, h1.os, h1.tape, h1.output, h1.size, h1.block⟩

set_option maxHeartbeats 20000000 in
theorem figures_any (e : Ev) (r0 r1 r2 r3 r4 r5 r6 r7 r8 : Nat) (hq : e.Quo r0 r1 r2 r3 r4 r5 r6 r7 r8) (hf : e.Fit) (b : Nat) (w : World) (hp : Pow w) (hb : b < w.heap.size) (he : e.At w b) :
    Calls Ybad.prog 11 #[.pointer (some ⟨b, 0, none⟩)] w fun en w' => en = .returned (.agg (e.figs r0 r1 r2 r3 r4 r5 r6 r7 r8)) ∧ Below w.heap.size w w' := by
  obtain ⟨N, G, Pr, x0, x1, x2, x3, x4, x5, d0, d1, d2, d3, d4, d5, d6, d7, d8, n0, n1, n2, n3, n4, n5, n6, n7, n8, sc, fo, pe⟩ := e
  have c0 : w.cell? ⟨b, 0, none⟩ = some (.int .i64 N) := he 0 (by omega)
  have c1 : w.cell? ⟨b, 1, none⟩ = some (.int .u64 d0) := he 1 (by omega)
  have c2 : w.cell? ⟨b, 2, none⟩ = some (.int .u8 n0) := he 2 (by omega)
  have c3 : w.cell? ⟨b, 3, none⟩ = some (.int .i64 G) := he 3 (by omega)
  have c4 : w.cell? ⟨b, 4, none⟩ = some (.int .u64 d1) := he 4 (by omega)
  have c5 : w.cell? ⟨b, 5, none⟩ = some (.int .u8 n1) := he 5 (by omega)
  have c6 : w.cell? ⟨b, 6, none⟩ = some (.int .u64 d2) := he 6 (by omega)
  have c7 : w.cell? ⟨b, 7, none⟩ = some (.int .u8 n2) := he 7 (by omega)
  have c8 : w.cell? ⟨b, 8, none⟩ = some (.int .u64 d3) := he 8 (by omega)
  have c9 : w.cell? ⟨b, 9, none⟩ = some (.int .u8 n3) := he 9 (by omega)
  have c10 : w.cell? ⟨b, 10, none⟩ = some (.int .u64 d4) := he 10 (by omega)
  have c11 : w.cell? ⟨b, 11, none⟩ = some (.int .u8 n4) := he 11 (by omega)
  have c12 : w.cell? ⟨b, 12, none⟩ = some (.int .u64 d5) := he 12 (by omega)
  have c13 : w.cell? ⟨b, 13, none⟩ = some (.int .u8 n5) := he 13 (by omega)
  have c14 : w.cell? ⟨b, 14, none⟩ = some (.int .u64 d6) := he 14 (by omega)
  have c15 : w.cell? ⟨b, 15, none⟩ = some (.int .u8 n6) := he 15 (by omega)
  have c16 : w.cell? ⟨b, 16, none⟩ = some (.int .u64 d7) := he 16 (by omega)
  have c17 : w.cell? ⟨b, 17, none⟩ = some (.int .u8 n7) := he 17 (by omega)
  have c18 : w.cell? ⟨b, 18, none⟩ = some (.int .u64 d8) := he 18 (by omega)
  have c19 : w.cell? ⟨b, 19, none⟩ = some (.int .u8 n8) := he 19 (by omega)
  have c20 : w.cell? ⟨b, 20, none⟩ = some (.int .i64 x0) := he 20 (by omega)
  have c21 : w.cell? ⟨b, 21, none⟩ = some (.int .i64 x1) := he 21 (by omega)
  have c22 : w.cell? ⟨b, 22, none⟩ = some (.int .i64 x2) := he 22 (by omega)
  have c23 : w.cell? ⟨b, 23, none⟩ = some (.int .i64 x3) := he 23 (by omega)
  have c24 : w.cell? ⟨b, 24, none⟩ = some (.int .i64 x4) := he 24 (by omega)
  have c25 : w.cell? ⟨b, 25, none⟩ = some (.int .i64 x5) := he 25 (by omega)
  have c26 : w.cell? ⟨b, 26, none⟩ = some (.bool sc) := he 26 (by omega)
  have c27 : w.cell? ⟨b, 27, none⟩ = some (.int .i64 Pr) := he 27 (by omega)
  have c28 : w.cell? ⟨b, 28, none⟩ = some (.bool fo) := he 28 (by omega)
  have c29 : w.cell? ⟨b, 29, none⟩ = some (.bool pe) := he 29 (by omega)
  clear he
  have z1 := hp.size
  have hb1 : b < w.heap.size + 1 := by omega
  have hb2 : b < w.heap.size + 1 + 1 := by omega
  have hb3 : b < w.heap.size + 1 + 1 + 1 := by omega
  have hb4 : b < w.heap.size + 1 + 1 + 1 + 1 := by omega
  go_enter Ybad.func11, Ybad.ntmps11
  go_wp2
  go_cut [3, 4, 5] from 7 to 18 (fun v3 v4 v5 wc => ∃ a3 a4 a5 : Nat, v3 = .pointer (some ⟨a3, 0, none⟩) ∧ v4 = .pointer (some ⟨a4, 0, none⟩) ∧ v5 = .pointer (some ⟨a5, 0, none⟩) ∧ w.heap.size < a3 ∧ w.heap.size < a4 ∧ w.heap.size < a5 ∧ FigS b w.heap.size a3 a4 a5 N G Pr x0 x1 x2 x3 x4 x5 d0 d1 d2 d3 d4 d5 d6 d7 d8 n0 n1 n2 n3 n4 n5 n6 n7 n8 sc w wc)
  case first =>
    go_region
    all_goals
      go_wp2
      go_meet
      case rel =>
        refine ⟨_, _, _, rfl, rfl, rfl, by omega, by omega, by omega, ?_⟩
        refine FigS.first hb c0 c1 c2 c3 c27 ?_ ?_ ?_ ?_ ?_ ?_
        · with_reducible first | exact (Holds.new _ _ _ _ (by simp only [World.size_alloc])).drew | exact ((Holds.new _ _ _ _ (by simp only [World.size_alloc])).alloc _).drew | exact (((Holds.new _ _ _ _ (by simp only [World.size_alloc])).alloc _).alloc _).drew
        · with_reducible first | exact (Holds.new _ _ _ _ (by simp only [World.size_alloc])).drew | exact ((Holds.new _ _ _ _ (by simp only [World.size_alloc])).alloc _).drew | exact (((Holds.new _ _ _ _ (by simp only [World.size_alloc])).alloc _).alloc _).drew
        · with_reducible first | exact (Holds.new _ _ _ _ (by simp only [World.size_alloc])).drew | exact ((Holds.new _ _ _ _ (by simp only [World.size_alloc])).alloc _).drew | exact (((Holds.new _ _ _ _ (by simp only [World.size_alloc])).alloc _).alloc _).drew
        · exact there_drew (World.there_alloc (World.there_alloc (World.there_alloc (there_new w) _) _) _)
        · exact ((((hp.alloc _).alloc _).alloc _).alloc _).drew
        · exact (((((Below.refl _ w).alloc (Nat.le_refl _) _).alloc (by simp only [World.size_alloc]; omega) _).alloc (by simp only [World.size_alloc]; omega) _).alloc (by simp only [World.size_alloc]; omega) _).drew
  case rest =>
    obtain ⟨a3, a4, a5, rfl, rfl, rfl, l3, l4, l5, hfig⟩ := hcut
    have g0 : wc.cell? ⟨a5, 6, none⟩ = some (.bool sc) := hfig.2.2.2.2.2.2.2.2.2.2.2.2.2.2.2.2.2.2.2.2.2.2.1
    have HF : Hid (FigS b w.heap.size a3 a4 a5 N G Pr x0 x1 x2 x3 x4 x5 d0 d1 d2 d3 d4 d5 d6 d7 d8 n0 n1 n2 n3 n4 n5 n6 n7 n8 sc w wc) := hfig
    clear hfig c0 c1 c2 c3 c4 c5 c6 c7 c8 c9 c10 c11 c12 c13 c14 c15 c16 c17 c18 c19 c20 c21 c22 c23 c24 c25 c26 c27 c28 c29
    clear hb1 hb2 hb3 hb4
    go_upto_if 20 with fail
    go_cut [6] from 19 to 20 (fun v wd => wc = wd ∧ v = .float .f64 (scanB sc))
    case first =>
      cases sc
      all_goals
        go_wp2
        go_meet
        case rel => exact ⟨rfl, rfl⟩
    case rest =>
      obtain ⟨rfl, rfl⟩ := hcut
      clear g0
      have hone : ∀ v ∈ ([.float .f64 (floatOfInt .f64 N), .float .f64 r0, .float .f64 (floatOfInt .f64 G), .float .f64 r1, .float .f64 r2, .float .f64 r3, .float .f64 r4, .float .f64 r5, .float .f64 r6, .float .f64 r7, .float .f64 r8, .float .f64 (floatOfInt .f64 x0), .float .f64 (floatOfInt .f64 x1), .float .f64 (floatOfInt .f64 x2), .float .f64 (floatOfInt .f64 x3), .float .f64 (floatOfInt .f64 x4), .float .f64 (floatOfInt .f64 x5), .float .f64 (scanB sc), .float .f64 (floatOfInt .f64 Pr)] : List Value), v.oneCell' = true := by simp [Value.oneCell']
      have hsz : (Ybad.prog.info? 23).map (·.size) = some (Array.size (List.toArray ([.float .f64 (floatOfInt .f64 N), .float .f64 r0, .float .f64 (floatOfInt .f64 G), .float .f64 r1, .float .f64 r2, .float .f64 r3, .float .f64 r4, .float .f64 r5, .float .f64 r6, .float .f64 r7, .float .f64 r8, .float .f64 (floatOfInt .f64 x0), .float .f64 (floatOfInt .f64 x1), .float .f64 (floatOfInt .f64 x2), .float .f64 (floatOfInt .f64 x3), .float .f64 (floatOfInt .f64 x4), .float .f64 (floatOfInt .f64 x5), .float .f64 (scanB sc), .float .f64 (floatOfInt .f64 Pr)] : List Value))) := by kernel_rfl
      go_upto_region 5 with fail
      simp only [List.append]
      go_region_held3 (fun W => W.cell? ⟨a3, 0, none⟩ = some (.int .u64 d1) ∧ W.cell? ⟨a3, 1, none⟩ = some (.int .u8 ((n1 : Nat) : Int)) ∧ W.cell? ⟨a3, 2, none⟩ = some (.int .u64 d2) ∧ W.cell? ⟨a3, 3, none⟩ = some (.int .u8 ((n2 : Nat) : Int)) ∧ W.cell? ⟨a3, 4, none⟩ = some (.int .u64 d3) ∧ W.cell? ⟨a3, 5, none⟩ = some (.int .u8 ((n3 : Nat) : Int)) ∧ W.cell? ⟨a4, 0, none⟩ = some (.int .u64 d4) ∧ W.cell? ⟨a4, 1, none⟩ = some (.int .u8 ((n4 : Nat) : Int)) ∧ W.cell? ⟨a4, 2, none⟩ = some (.int .u64 d5) ∧ W.cell? ⟨a4, 3, none⟩ = some (.int .u8 ((n5 : Nat) : Int)) ∧ W.cell? ⟨a4, 4, none⟩ = some (.int .u64 d6) ∧ W.cell? ⟨a4, 5, none⟩ = some (.int .u8 ((n6 : Nat) : Int)) ∧ W.cell? ⟨a4, 6, none⟩ = some (.int .u64 d7) ∧ W.cell? ⟨a4, 7, none⟩ = some (.int .u8 ((n7 : Nat) : Int)) ∧ W.cell? ⟨a4, 8, none⟩ = some (.int .u64 d8) ∧ W.cell? ⟨a4, 9, none⟩ = some (.int .u8 ((n8 : Nat) : Int)) ∧ W.cell? ⟨a5, 0, none⟩ = some (.int .i64 x0) ∧ W.cell? ⟨a5, 1, none⟩ = some (.int .i64 x1) ∧ W.cell? ⟨a5, 2, none⟩ = some (.int .i64 x2) ∧ W.cell? ⟨a5, 3, none⟩ = some (.int .i64 x3) ∧ W.cell? ⟨a5, 4, none⟩ = some (.int .i64 x4) ∧ W.cell? ⟨a5, 5, none⟩ = some (.int .i64 x5) ∧ W.cell? ⟨a5, 6, none⟩ = some (.bool sc) ∧ W.cell? ⟨b, 0, none⟩ = some (.int .i64 N) ∧ W.cell? ⟨b, 1, none⟩ = some (.int .u64 d0) ∧ W.cell? ⟨b, 2, none⟩ = some (.int .u8 ((n0 : Nat) : Int)) ∧ W.cell? ⟨b, 3, none⟩ = some (.int .i64 G) ∧ W.cell? ⟨b, 27, none⟩ = some (.int .i64 Pr) ∧ W.there w.heap.size 0 19 ∧ Pow W ∧ Below w.heap.size w W) ((with_reducible (first | exact FigS.up (Nat.le_refl _) (by assumption) (by assumption) | exact HF.out.drew | exact FigS.put _ z1 hb l3 l4 l5 (by assumption)))) (first | (go_at_call_of 16 (Value.agg #[Value.int IntKind.u64 d0, Value.int IntKind.u8 (n0 : Int)]); refine (float_below d0 n0 r0 hf.p0 hq.q0 _ ?_).mono ?_; (go_split_ands; assumption); rintro en w0 ⟨rfl, u0⟩) | (go_at_call_of 16 (Value.agg #[Value.int IntKind.u64 d1, Value.int IntKind.u8 (n1 : Int)]); refine (float_below d1 n1 r1 hf.p1 hq.q1 _ ?_).mono ?_; (go_split_ands; assumption); rintro en w1 ⟨rfl, u1⟩) | (go_at_call_of 16 (Value.agg #[Value.int IntKind.u64 d2, Value.int IntKind.u8 (n2 : Int)]); refine (float_below d2 n2 r2 hf.p2 hq.q2 _ ?_).mono ?_; (go_split_ands; assumption); rintro en w2 ⟨rfl, u2⟩) | (go_at_call_of 16 (Value.agg #[Value.int IntKind.u64 d3, Value.int IntKind.u8 (n3 : Int)]); refine (float_below d3 n3 r3 hf.p3 hq.q3 _ ?_).mono ?_; (go_split_ands; assumption); rintro en w3 ⟨rfl, u3⟩) | (go_at_call_of 16 (Value.agg #[Value.int IntKind.u64 d4, Value.int IntKind.u8 (n4 : Int)]); refine (float_below d4 n4 r4 hf.p4 hq.q4 _ ?_).mono ?_; (go_split_ands; assumption); rintro en w4 ⟨rfl, u4⟩) | (go_at_call_of 16 (Value.agg #[Value.int IntKind.u64 d5, Value.int IntKind.u8 (n5 : Int)]); refine (float_below d5 n5 r5 hf.p5 hq.q5 _ ?_).mono ?_; (go_split_ands; assumption); rintro en w5 ⟨rfl, u5⟩) | (go_at_call_of 16 (Value.agg #[Value.int IntKind.u64 d6, Value.int IntKind.u8 (n6 : Int)]); refine (float_below d6 n6 r6 hf.p6 hq.q6 _ ?_).mono ?_; (go_split_ands; assumption); rintro en w6 ⟨rfl, u6⟩) | (go_at_call_of 16 (Value.agg #[Value.int IntKind.u64 d7, Value.int IntKind.u8 (n7 : Int)]); refine (float_below d7 n7 r7 hf.p7 hq.q7 _ ?_).mono ?_; (go_split_ands; assumption); rintro en w7 ⟨rfl, u7⟩) | (go_at_call_of 16 (Value.agg #[Value.int IntKind.u64 d8, Value.int IntKind.u8 (n8 : Int)]); refine (float_below d8 n8 r8 hf.p8 hq.q8 _ ?_).mono ?_; (go_split_ands; assumption); rintro en w8 ⟨rfl, u8⟩))
      go_wp2
      clear hone hsz
      have T := there_below u8 (there_below u7 (there_below u6 (there_below u5 (there_below u4 (there_below u3 (there_below u2 (there_below u1 (there_below u0 (there_drew HF.out.2.2.2.2.2.2.2.2.2.2.2.2.2.2.2.2.2.2.2.2.2.2.2.2.2.2.2.2.1)))))))))
      exact bodyPost_ret (figs_results w8 w.heap.size _ rfl T _ rfl) rfl ⟨rfl, by (go_split_ands; assumption)⟩
end Go.Proofs.YbulkdhacDoor
