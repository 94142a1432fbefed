/-
  The row m of the law.
-/
import Derived.Test.YbulkdhacDoorTail
namespace Go.Proofs.YbulkdhacDoor
open Go.RowKit Floats
attribute [local go_sem] run_store_flt alloc_drewN setCell_drewN

noncomputable def rest39 : Code := (Ybad.f3.body.bind (restFrom 39)).getD .skip
theorem use_hyp {K : Act → World → Prop} {a : Act} {w : World} {P : Program} {c : Code} {Q : Exit → Act → World → Prop} (h : ∀ a w, Code.wp P c Q a w → K a w) (hc : Code.wp P c Q a w) : K a w := h a w hc

theorem getD_zero (y : Nat) (t : List Nat) : (y :: t).getD 0 0 = y := rfl
theorem mrow_zero (y0 y1 y2 y3 y4 y5 y6 y7 y8 y9 y10 y11 y12 y13 y14 y15 y16 y17 y18 : Nat) : (updN (updN (updN (updN (updN (updN (updN (updN (updN (updN (updN (updN (updN (updN (updN (updN (updN (updN (updN (fun _ => 0) 0 y0) 1 y1) 2 y2) 3 y3) 4 y4) 5 y5) 6 y6) 7 y7) 8 y8) 9 y9) 10 y10) 11 y11) 12 y12) 13 y13) 14 y14) 15 y15) 16 y16) 17 y17) 18 y18) 0 = y0 := rfl
theorem mrow_fin (y0 y1 y2 y3 y4 y5 y6 y7 y8 y9 y10 y11 y12 y13 y14 y15 y16 y17 y18 : Nat) (mm : Nat → Nat) (hm : ∀ i, 0 < i → i < 19 → [y0, y1, y2, y3, y4, y5, y6, y7, y8, y9, y10, y11, y12, y13, y14, y15, y16, y17, y18].getD i 0 = mm i) (i : Nat) (hi : i < 19) : updN (updN (updN (updN (updN (updN (updN (updN (updN (updN (updN (updN (updN (updN (updN (updN (updN (updN (updN (updN (fun _ => 0) 0 y0) 1 y1) 2 y2) 3 y3) 4 y4) 5 y5) 6 y6) 7 y7) 8 y8) 9 y9) 10 y10) 11 y11) 12 y12) 13 y13) 14 y14) 15 y15) 16 y16) 17 y17) 18 y18) 0 (mm 0) i = mm i := by
  match i, hi with
  | 0, _ => rfl
  | 1, _ => exact hm 1 (by omega) (by omega)
  | 2, _ => exact hm 2 (by omega) (by omega)
  | 3, _ => exact hm 3 (by omega) (by omega)
  | 4, _ => exact hm 4 (by omega) (by omega)
  | 5, _ => exact hm 5 (by omega) (by omega)
  | 6, _ => exact hm 6 (by omega) (by omega)
  | 7, _ => exact hm 7 (by omega) (by omega)
  | 8, _ => exact hm 8 (by omega) (by omega)
  | 9, _ => exact hm 9 (by omega) (by omega)
  | 10, _ => exact hm 10 (by omega) (by omega)
  | 11, _ => exact hm 11 (by omega) (by omega)
  | 12, _ => exact hm 12 (by omega) (by omega)
  | 13, _ => exact hm 13 (by omega) (by omega)
  | 14, _ => exact hm 14 (by omega) (by omega)
  | 15, _ => exact hm 15 (by omega) (by omega)
  | 16, _ => exact hm 16 (by omega) (by omega)
  | 17, _ => exact hm 17 (by omega) (by omega)
  | 18, _ => exact hm 18 (by omega) (by omega)
  | n + 19, h => omega

set_option maxRecDepth 100000 in
set_option maxHeartbeats 8000000 in
theorem tail39 (w wg : World) (A : Nat → Value) (ec : List Value) (B : Nat → Value) (a c : Nat) (ev : List Value) (mm bb qq : Nat → Nat) (A1 : Nat → Value) (N G Pr x0 x1 x2 x3 x4 x5 d0 d1 d2 d3 d4 d5 d6 d7 d8 p0 p1 p2 p3 p4 p5 p6 p7 p8 : Int) (n0 n1 n2 n3 n4 n5 n6 n7 n8 : Nat) (sc fo pe : Bool) (r0 r1 r2 r3 r4 r5 r6 r7 r8 : Nat) (L : List Nat)
    (HEC : Hid (ec = [.int .i64 N, .int .i64 G, .int .i64 Pr, .int .u64 d0, .int .u64 d1, .int .u64 d2, .int .u64 d3, .int .u64 d4, .int .u64 d5, .int .u64 d6, .int .u64 d7, .int .u64 d8, .int .u8 p0, .int .u8 p1, .int .u8 p2, .int .u8 p3, .int .u8 p4, .int .u8 p5, .int .u8 p6, .int .u8 p7, .int .u8 p8, .int .i64 x0, .int .i64 x1, .int .i64 x2, .int .i64 x3, .int .i64 x4, .int .i64 x5, .bool sc, .bool fo, .bool pe])) (HEV : Hid (ev = [.int .i64 N, .int .u64 d0, .int .u8 ((n0 : Nat) : Int), .int .i64 G, .int .u64 d1, .int .u8 ((n1 : Nat) : Int), .int .u64 d2, .int .u8 ((n2 : Nat) : Int), .int .u64 d3, .int .u8 ((n3 : Nat) : Int), .int .u64 d4, .int .u8 ((n4 : Nat) : Int), .int .u64 d5, .int .u8 ((n5 : Nat) : Int), .int .u64 d6, .int .u8 ((n6 : Nat) : Int), .int .u64 d7, .int .u8 ((n7 : Nat) : Int), .int .u64 d8, .int .u8 ((n8 : Nat) : Int), .int .i64 x0, .int .i64 x1, .int .i64 x2, .int .i64 x3, .int .i64 x4, .int .i64 x5, .bool sc, .int .i64 Pr, .bool fo, .bool pe])) (HQ : Hid ((Ev.mk N G Pr x0 x1 x2 x3 x4 x5 d0 d1 d2 d3 d4 d5 d6 d7 d8 n0 n1 n2 n3 n4 n5 n6 n7 n8 sc fo pe).Quo r0 r1 r2 r3 r4 r5 r6 r7 r8)) (HFT : Hid ((Ev.mk N G Pr x0 x1 x2 x3 x4 x5 d0 d1 d2 d3 d4 d5 d6 d7 d8 n0 n1 n2 n3 n4 n5 n6 n7 n8 sc fo pe).Fit)) (HLL : Hid (L = [floatOfInt .f64 N, r0, floatOfInt .f64 G, r1, r2, r3, r4, r5, r6, r7, r8, floatOfInt .f64 x0, floatOfInt .f64 x1, floatOfInt .f64 x2, floatOfInt .f64 x3, floatOfInt .f64 x4, floatOfInt .f64 x5, scanB sc, floatOfInt .f64 Pr]))
    (H0 : Hid (floatBits .add .f64 (L.getD 0 0) one64 = some (mm 0))) (HM : Hid (∀ i, 0 < i → i < 19 → L.getD i 0 = mm i))
    (H2 : Hid (HeldP w wg A ec B a c ev)) (HD : Hid (Done B 19 mm bb qq A1)) (HBB : Hid (∀ i, i < 19 → floatBits .add .f64 (mm i) one64 = some (bb i))) (HQQ : Hid (∀ i, i < 19 → floatBits .quo .f64 one64 (bb i) = some (qq i)))
    (v0 v1 v2 v3 v4 v6 v8 v9 v11 v12 v13 v15 v16 v17 v18 v19 v20 v21 v22 v23 v24 v25 v26 v27 v28 v29 v30 v31 v32 v33 v34 v35 v36 v37 v38 v39 v40 v41 v42 v43 v44 v45 v46 v47 v48 v49 v50 v51 v52 v53 v54 v55 v56 v57 v58 v59 v60 v61 v62 v63 v64 v65 v66 v67 v68 v69 v70 v71 v72 v73 v74 v75 v76 v77 v78 v79 v80 v81 v82 v83 v84 v85 v86 v87 v88 v89 v90 v91 v92 v93 v94 v95 v96 v97 v98 v99 v100 v101 v102 v103 v104 v105 v106 v107 v108 v109 v110 v111 v112 v113 v114 v115 v116 v117 v118 v119 v120 v121 v122 v123 v124 v125 v126 v127 v128 v129 v130 v131 v132 v133 v134 v135 v136 v137 v138 v139 v140 v141 v142 v143 v144 v145 v146 v147 v148 v149 v150 v151 v152 v153 v154 v155 v156 v157 v158 v159 v160 v161 v162 v163 v164 v165 v166 v167 v168 v169 v170 v171 v172 v173 v174 v175 v176 v177 v178 v179 v180 v181 v182 v183 v184 v185 v186 v187 v188 v189 v190 v191 v192 v193 v194 v195 v196 v197 v198 v199 v200 v201 v202 v203 v204 v205 v206 v207 v208 v209 v210 v211 v212 v213 v214 v215 v216 v217 v218 v219 v220 v221 v222 v223 v224 v225 v226 v227 v228 v229 v230 v231 v232 v233 v234 v235 v236 v237 v238 v239 v240 v241 v242 v243 v244 v245 v246 v247 v248 v249 v250 v251 v252 v253 v254 v255 v256 v257 v258 v259 v260 v261 v262 v263 v264 v265 v266 v267 v268 v269 v270 v271 v272 v273 v274 v275 v276 v277 v278 v279 v280 v281 v282 v283 v284 v285 v286 v287 v288 v289 v290 v291 v292 v293 v294 v295 v296 v297 v298 v299 v300 v301 v302 v303 v304 v305 v306 v307 v308 v309 v310 v311 v312 v313 v314 v315 v316 v317 v318 v319 v320 v321 v322 v323 v324 v325 v326 v327 v328 v329 v330 v331 v332 v333 v334 v335 v336 v337 v338 v339 v340 v341 v342 v343 v344 v345 v346 v347 v348 v349 v350 v351 v352 v353 v354 v355 v356 v357 v358 v359 v360 v361 v362 v363 v364 v365 v366 v367 v368 v369 v370 v371 v372 v373 v374 v375 v376 v377 v378 v379 v380 v381 v382 v383 v384 v385 v386 v387 v388 v389 v390 v391 v392 v393 v394 v395 v396 v397 v398 v399 v400 v401 v402 v403 v404 : Value) :
    Code.wp Ybad.prog rest39 (bodyPost Ybad.prog Ybad.f3 fun e w' => e = .returned (.bool true) ∧ Below w.heap.size w w') ⟨#[v0, v1, v2, v3, v4, .pointer (some ⟨w.heap.size + 1, 0, none⟩), v6, .pointer (some ⟨w.heap.size + 1 + 1, 0, none⟩), v8, v9, .pointer (some ⟨c, 0, none⟩), v11, v12, v13, .float .f64 (scanB sc), v15, v16, v17, v18, v19, v20, v21, v22, v23, v24, v25, v26, v27, v28, v29, v30, v31, v32, v33, v34, v35, v36, v37, v38, v39, v40, v41, v42, v43, v44, v45, v46, v47, v48, v49, v50, v51, v52, v53, v54, v55, v56, v57, v58, v59, v60, v61, v62, v63, v64, v65, v66, v67, v68, v69, v70, v71, v72, v73, v74, v75, v76, v77, v78, v79, v80, v81, v82, v83, v84, v85, v86, v87, v88, v89, v90, v91, v92, v93, v94, v95, v96, v97, v98, v99, v100, v101, v102, v103, v104, v105, v106, v107, v108, v109, v110, v111, v112, v113, v114, v115, v116, v117, v118, v119, v120, v121, v122, v123, v124, v125, v126, v127, v128, v129, v130, v131, v132, v133, v134, v135, v136, v137, v138, v139, v140, v141, v142, v143, v144, v145, v146, v147, v148, v149, v150, v151, v152, v153, v154, v155, v156, v157, v158, v159, v160, v161, v162, v163, v164, v165, v166, v167, v168, v169, v170, v171, v172, v173, v174, v175, v176, v177, v178, v179, v180, v181, v182, v183, v184, v185, v186, v187, v188, v189, v190, v191, v192, v193, v194, v195, v196, v197, v198, v199, v200, v201, v202, v203, v204, v205, v206, v207, v208, v209, v210, v211, v212, v213, v214, v215, v216, v217, v218, v219, v220, v221, v222, v223, v224, v225, v226, v227, v228, v229, v230, v231, v232, v233, v234, v235, v236, v237, v238, v239, v240, v241, v242, v243, v244, v245, v246, v247, v248, v249, v250, v251, v252, v253, v254, v255, v256, v257, v258, v259, v260, v261, v262, v263, v264, v265, v266, v267, v268, v269, v270, v271, v272, v273, v274, v275, v276, v277, v278, v279, v280, v281, v282, v283, v284, v285, v286, v287, v288, v289, v290, v291, v292, v293, v294, v295, v296, v297, v298, v299, v300, v301, v302, v303, v304, v305, v306, v307, v308, v309, v310, v311, v312, v313, v314, v315, v316, v317, v318, v319, v320, v321, v322, v323, v324, v325, v326, v327, v328, v329, v330, v331, v332, v333, v334, v335, v336, v337, v338, v339, v340, v341, v342, v343, v344, v345, v346, v347, v348, v349, v350, v351, v352, v353, v354, v355, v356, v357, v358, v359, v360, v361, v362, v363, v364, v365, v366, v367, v368, v369, v370, v371, v372, v373, v374, v375, v376, v377, v378, v379, v380, v381, v382, v383, v384, v385, v386, v387, v388, v389, v390, v391, v392, v393, v394, v395, v396, v397, v398, v399, v400, v401, v402, v403, v404], []⟩ wg := by
  conv => arg 2; whnf
  go_upto_region 40 with fail
  have H3 : Hid (HeldM w (wg.alloc zeros19) A ec B a c ev wg.heap.size (fun _ => 0)) := HeldM.new H2.out (World.block_lt_of_cell? wg _ (H2.out.ea 0 (.int .i64 N) (by rw [HEV.out]; rfl))) (World.block_lt_of_cell? wg _ (H2.out.eb 0 (.int .i64 N) (by rw [HEV.out]; rfl)))
  unfold zeros19 at H3
  clear H2
  generalize wg.heap.size = m at *
  generalize wg.alloc _ = wm0 at *
  have f1 := H3.out.free 0
  have c1 := H3.out.cell 0 (by omega)
  have c2 : wm0.cell? ⟨w.heap.size + 1, 0, none⟩ = some (.int .i64 N) := H3.out.h.h.ev 0 _ (by rw [HEC.out]; rfl)
  go_upto_region 41 with fail
  clear c2
  clear c1 f1
  have K0 : HeldM w (wm0.setCell ⟨m, 0, none⟩ (.float .f64 (floatOfInt .f64 N))) A ec B a c ev m (updN (fun _ => 0) 0 (floatOfInt .f64 N)) := H3.out.set 0 (by omega) _
  clear H3
  obtain ⟨M0, hM0⟩ : ∃ M, M = (updN (fun _ => 0) 0 (floatOfInt .f64 N)) := ⟨_, rfl⟩
  rw [← hM0] at K0
  have KM0 : Hid (M0 = (updN (fun _ => 0) 0 (floatOfInt .f64 N))) := hM0
  have KK0 : Hid (HeldM w (wm0.setCell ⟨m, 0, none⟩ (.float .f64 (floatOfInt .f64 N))) A ec B a c ev m M0) := K0
  clear K0 hM0
  generalize wm0.setCell ⟨m, 0, none⟩ (.float .f64 (floatOfInt .f64 N)) = wm1 at *
  have f1 := KK0.out.free 1
  have c1 := KK0.out.cell 1 (by omega)
  have c2 : wm1.cell? ⟨c, 1, none⟩ = some (.int .u64 d0) := KK0.out.h.eb 1 _ (by rw [HEV.out]; rfl)
  have c3 : wm1.cell? ⟨c, 2, none⟩ = some (.int .u8 ((n0 : Nat) : Int)) := KK0.out.h.eb 2 _ (by rw [HEV.out]; rfl)
  go_wp2_with fail
  refine (flt_below d0 n0 r0 HFT.out.p0 HQ.out.q0 _).mono ?_
  rintro e wf1 ⟨rfl, hu⟩
  clear c1 f1 c2 c3
  have G1 : Hid (HeldM w wf1 A ec B a c ev m M0) := KK0.out.up hu
  clear KK0 hu
  have f1 := G1.out.free 1
  have c1 := G1.out.cell 1 (by omega)
  go_upto_region 42 with fail
  clear c1 f1
  have K1 : HeldM w (wf1.setCell ⟨m, 1, none⟩ (.float .f64 (r0))) A ec B a c ev m (updN M0 1 (r0)) := G1.out.set 1 (by omega) _
  clear G1
  obtain ⟨M1, hM1⟩ : ∃ M, M = (updN M0 1 (r0)) := ⟨_, rfl⟩
  rw [← hM1] at K1
  have KM1 : Hid (M1 = (updN M0 1 (r0))) := hM1
  have KK1 : Hid (HeldM w (wf1.setCell ⟨m, 1, none⟩ (.float .f64 (r0))) A ec B a c ev m M1) := K1
  clear K1 hM1
  generalize wf1.setCell ⟨m, 1, none⟩ (.float .f64 (r0)) = wm2 at *
  have f1 := KK1.out.free 2
  have c1 := KK1.out.cell 2 (by omega)
  have c2 : wm2.cell? ⟨w.heap.size + 1, 1, none⟩ = some (.int .i64 G) := KK1.out.h.h.ev 1 _ (by rw [HEC.out]; rfl)
  go_upto_region 43 with fail
  clear c2
  clear c1 f1
  have K2 : HeldM w (wm2.setCell ⟨m, 2, none⟩ (.float .f64 (floatOfInt .f64 G))) A ec B a c ev m (updN M1 2 (floatOfInt .f64 G)) := KK1.out.set 2 (by omega) _
  clear KK1
  obtain ⟨M2, hM2⟩ : ∃ M, M = (updN M1 2 (floatOfInt .f64 G)) := ⟨_, rfl⟩
  rw [← hM2] at K2
  have KM2 : Hid (M2 = (updN M1 2 (floatOfInt .f64 G))) := hM2
  have KK2 : Hid (HeldM w (wm2.setCell ⟨m, 2, none⟩ (.float .f64 (floatOfInt .f64 G))) A ec B a c ev m M2) := K2
  clear K2 hM2
  generalize wm2.setCell ⟨m, 2, none⟩ (.float .f64 (floatOfInt .f64 G)) = wm3 at *
  have f1 := KK2.out.free 3
  have c1 := KK2.out.cell 3 (by omega)
  have c2 : wm3.cell? ⟨c, 4, none⟩ = some (.int .u64 d1) := KK2.out.h.eb 4 _ (by rw [HEV.out]; rfl)
  have c3 : wm3.cell? ⟨c, 5, none⟩ = some (.int .u8 ((n1 : Nat) : Int)) := KK2.out.h.eb 5 _ (by rw [HEV.out]; rfl)
  go_wp2_with fail
  refine (flt_below d1 n1 r1 HFT.out.p1 HQ.out.q1 _).mono ?_
  rintro e wf3 ⟨rfl, hu⟩
  clear c1 f1 c2 c3
  have G3 : Hid (HeldM w wf3 A ec B a c ev m M2) := KK2.out.up hu
  clear KK2 hu
  have f1 := G3.out.free 3
  have c1 := G3.out.cell 3 (by omega)
  go_upto_region 44 with fail
  clear c1 f1
  have K3 : HeldM w (wf3.setCell ⟨m, 3, none⟩ (.float .f64 (r1))) A ec B a c ev m (updN M2 3 (r1)) := G3.out.set 3 (by omega) _
  clear G3
  obtain ⟨M3, hM3⟩ : ∃ M, M = (updN M2 3 (r1)) := ⟨_, rfl⟩
  rw [← hM3] at K3
  have KM3 : Hid (M3 = (updN M2 3 (r1))) := hM3
  have KK3 : Hid (HeldM w (wf3.setCell ⟨m, 3, none⟩ (.float .f64 (r1))) A ec B a c ev m M3) := K3
  clear K3 hM3
  generalize wf3.setCell ⟨m, 3, none⟩ (.float .f64 (r1)) = wm4 at *
  have f1 := KK3.out.free 4
  have c1 := KK3.out.cell 4 (by omega)
  have c2 : wm4.cell? ⟨c, 6, none⟩ = some (.int .u64 d2) := KK3.out.h.eb 6 _ (by rw [HEV.out]; rfl)
  have c3 : wm4.cell? ⟨c, 7, none⟩ = some (.int .u8 ((n2 : Nat) : Int)) := KK3.out.h.eb 7 _ (by rw [HEV.out]; rfl)
  go_wp2_with fail
  refine (flt_below d2 n2 r2 HFT.out.p2 HQ.out.q2 _).mono ?_
  rintro e wf4 ⟨rfl, hu⟩
  clear c1 f1 c2 c3
  have G4 : Hid (HeldM w wf4 A ec B a c ev m M3) := KK3.out.up hu
  clear KK3 hu
  have f1 := G4.out.free 4
  have c1 := G4.out.cell 4 (by omega)
  go_upto_region 45 with fail
  clear c1 f1
  have K4 : HeldM w (wf4.setCell ⟨m, 4, none⟩ (.float .f64 (r2))) A ec B a c ev m (updN M3 4 (r2)) := G4.out.set 4 (by omega) _
  clear G4
  obtain ⟨M4, hM4⟩ : ∃ M, M = (updN M3 4 (r2)) := ⟨_, rfl⟩
  rw [← hM4] at K4
  have KM4 : Hid (M4 = (updN M3 4 (r2))) := hM4
  have KK4 : Hid (HeldM w (wf4.setCell ⟨m, 4, none⟩ (.float .f64 (r2))) A ec B a c ev m M4) := K4
  clear K4 hM4
  generalize wf4.setCell ⟨m, 4, none⟩ (.float .f64 (r2)) = wm5 at *
  have f1 := KK4.out.free 5
  have c1 := KK4.out.cell 5 (by omega)
  have c2 : wm5.cell? ⟨c, 8, none⟩ = some (.int .u64 d3) := KK4.out.h.eb 8 _ (by rw [HEV.out]; rfl)
  have c3 : wm5.cell? ⟨c, 9, none⟩ = some (.int .u8 ((n3 : Nat) : Int)) := KK4.out.h.eb 9 _ (by rw [HEV.out]; rfl)
  go_wp2_with fail
  refine (flt_below d3 n3 r3 HFT.out.p3 HQ.out.q3 _).mono ?_
  rintro e wf5 ⟨rfl, hu⟩
  clear c1 f1 c2 c3
  have G5 : Hid (HeldM w wf5 A ec B a c ev m M4) := KK4.out.up hu
  clear KK4 hu
  have f1 := G5.out.free 5
  have c1 := G5.out.cell 5 (by omega)
  go_upto_region 46 with fail
  clear c1 f1
  have K5 : HeldM w (wf5.setCell ⟨m, 5, none⟩ (.float .f64 (r3))) A ec B a c ev m (updN M4 5 (r3)) := G5.out.set 5 (by omega) _
  clear G5
  obtain ⟨M5, hM5⟩ : ∃ M, M = (updN M4 5 (r3)) := ⟨_, rfl⟩
  rw [← hM5] at K5
  have KM5 : Hid (M5 = (updN M4 5 (r3))) := hM5
  have KK5 : Hid (HeldM w (wf5.setCell ⟨m, 5, none⟩ (.float .f64 (r3))) A ec B a c ev m M5) := K5
  clear K5 hM5
  generalize wf5.setCell ⟨m, 5, none⟩ (.float .f64 (r3)) = wm6 at *
  have f1 := KK5.out.free 6
  have c1 := KK5.out.cell 6 (by omega)
  have c2 : wm6.cell? ⟨c, 10, none⟩ = some (.int .u64 d4) := KK5.out.h.eb 10 _ (by rw [HEV.out]; rfl)
  have c3 : wm6.cell? ⟨c, 11, none⟩ = some (.int .u8 ((n4 : Nat) : Int)) := KK5.out.h.eb 11 _ (by rw [HEV.out]; rfl)
  go_wp2_with fail
  refine (flt_below d4 n4 r4 HFT.out.p4 HQ.out.q4 _).mono ?_
  rintro e wf6 ⟨rfl, hu⟩
  clear c1 f1 c2 c3
  have G6 : Hid (HeldM w wf6 A ec B a c ev m M5) := KK5.out.up hu
  clear KK5 hu
  have f1 := G6.out.free 6
  have c1 := G6.out.cell 6 (by omega)
  go_upto_region 47 with fail
  clear c1 f1
  have K6 : HeldM w (wf6.setCell ⟨m, 6, none⟩ (.float .f64 (r4))) A ec B a c ev m (updN M5 6 (r4)) := G6.out.set 6 (by omega) _
  clear G6
  obtain ⟨M6, hM6⟩ : ∃ M, M = (updN M5 6 (r4)) := ⟨_, rfl⟩
  rw [← hM6] at K6
  have KM6 : Hid (M6 = (updN M5 6 (r4))) := hM6
  have KK6 : Hid (HeldM w (wf6.setCell ⟨m, 6, none⟩ (.float .f64 (r4))) A ec B a c ev m M6) := K6
  clear K6 hM6
  generalize wf6.setCell ⟨m, 6, none⟩ (.float .f64 (r4)) = wm7 at *
  have f1 := KK6.out.free 7
  have c1 := KK6.out.cell 7 (by omega)
  have c2 : wm7.cell? ⟨c, 12, none⟩ = some (.int .u64 d5) := KK6.out.h.eb 12 _ (by rw [HEV.out]; rfl)
  have c3 : wm7.cell? ⟨c, 13, none⟩ = some (.int .u8 ((n5 : Nat) : Int)) := KK6.out.h.eb 13 _ (by rw [HEV.out]; rfl)
  go_wp2_with fail
  refine (flt_below d5 n5 r5 HFT.out.p5 HQ.out.q5 _).mono ?_
  rintro e wf7 ⟨rfl, hu⟩
  clear c1 f1 c2 c3
  have G7 : Hid (HeldM w wf7 A ec B a c ev m M6) := KK6.out.up hu
  clear KK6 hu
  have f1 := G7.out.free 7
  have c1 := G7.out.cell 7 (by omega)
  go_upto_region 48 with fail
  clear c1 f1
  have K7 : HeldM w (wf7.setCell ⟨m, 7, none⟩ (.float .f64 (r5))) A ec B a c ev m (updN M6 7 (r5)) := G7.out.set 7 (by omega) _
  clear G7
  obtain ⟨M7, hM7⟩ : ∃ M, M = (updN M6 7 (r5)) := ⟨_, rfl⟩
  rw [← hM7] at K7
  have KM7 : Hid (M7 = (updN M6 7 (r5))) := hM7
  have KK7 : Hid (HeldM w (wf7.setCell ⟨m, 7, none⟩ (.float .f64 (r5))) A ec B a c ev m M7) := K7
  clear K7 hM7
  generalize wf7.setCell ⟨m, 7, none⟩ (.float .f64 (r5)) = wm8 at *
  have f1 := KK7.out.free 8
  have c1 := KK7.out.cell 8 (by omega)
  have c2 : wm8.cell? ⟨c, 14, none⟩ = some (.int .u64 d6) := KK7.out.h.eb 14 _ (by rw [HEV.out]; rfl)
  have c3 : wm8.cell? ⟨c, 15, none⟩ = some (.int .u8 ((n6 : Nat) : Int)) := KK7.out.h.eb 15 _ (by rw [HEV.out]; rfl)
  go_wp2_with fail
  refine (flt_below d6 n6 r6 HFT.out.p6 HQ.out.q6 _).mono ?_
  rintro e wf8 ⟨rfl, hu⟩
  clear c1 f1 c2 c3
  have G8 : Hid (HeldM w wf8 A ec B a c ev m M7) := KK7.out.up hu
  clear KK7 hu
  have f1 := G8.out.free 8
  have c1 := G8.out.cell 8 (by omega)
  go_upto_region 49 with fail
  clear c1 f1
  have K8 : HeldM w (wf8.setCell ⟨m, 8, none⟩ (.float .f64 (r6))) A ec B a c ev m (updN M7 8 (r6)) := G8.out.set 8 (by omega) _
  clear G8
  obtain ⟨M8, hM8⟩ : ∃ M, M = (updN M7 8 (r6)) := ⟨_, rfl⟩
  rw [← hM8] at K8
  have KM8 : Hid (M8 = (updN M7 8 (r6))) := hM8
  have KK8 : Hid (HeldM w (wf8.setCell ⟨m, 8, none⟩ (.float .f64 (r6))) A ec B a c ev m M8) := K8
  clear K8 hM8
  generalize wf8.setCell ⟨m, 8, none⟩ (.float .f64 (r6)) = wm9 at *
  have f1 := KK8.out.free 9
  have c1 := KK8.out.cell 9 (by omega)
  have c2 : wm9.cell? ⟨c, 16, none⟩ = some (.int .u64 d7) := KK8.out.h.eb 16 _ (by rw [HEV.out]; rfl)
  have c3 : wm9.cell? ⟨c, 17, none⟩ = some (.int .u8 ((n7 : Nat) : Int)) := KK8.out.h.eb 17 _ (by rw [HEV.out]; rfl)
  go_wp2_with fail
  refine (flt_below d7 n7 r7 HFT.out.p7 HQ.out.q7 _).mono ?_
  rintro e wf9 ⟨rfl, hu⟩
  clear c1 f1 c2 c3
  have G9 : Hid (HeldM w wf9 A ec B a c ev m M8) := KK8.out.up hu
  clear KK8 hu
  have f1 := G9.out.free 9
  have c1 := G9.out.cell 9 (by omega)
  go_upto_region 50 with fail
  clear c1 f1
  have K9 : HeldM w (wf9.setCell ⟨m, 9, none⟩ (.float .f64 (r7))) A ec B a c ev m (updN M8 9 (r7)) := G9.out.set 9 (by omega) _
  clear G9
  obtain ⟨M9, hM9⟩ : ∃ M, M = (updN M8 9 (r7)) := ⟨_, rfl⟩
  rw [← hM9] at K9
  have KM9 : Hid (M9 = (updN M8 9 (r7))) := hM9
  have KK9 : Hid (HeldM w (wf9.setCell ⟨m, 9, none⟩ (.float .f64 (r7))) A ec B a c ev m M9) := K9
  clear K9 hM9
  generalize wf9.setCell ⟨m, 9, none⟩ (.float .f64 (r7)) = wm10 at *
  have f1 := KK9.out.free 10
  have c1 := KK9.out.cell 10 (by omega)
  have c2 : wm10.cell? ⟨c, 18, none⟩ = some (.int .u64 d8) := KK9.out.h.eb 18 _ (by rw [HEV.out]; rfl)
  have c3 : wm10.cell? ⟨c, 19, none⟩ = some (.int .u8 ((n8 : Nat) : Int)) := KK9.out.h.eb 19 _ (by rw [HEV.out]; rfl)
  go_wp2_with fail
  refine (flt_below d8 n8 r8 HFT.out.p8 HQ.out.q8 _).mono ?_
  rintro e wf10 ⟨rfl, hu⟩
  clear c1 f1 c2 c3
  have G10 : Hid (HeldM w wf10 A ec B a c ev m M9) := KK9.out.up hu
  clear KK9 hu
  have f1 := G10.out.free 10
  have c1 := G10.out.cell 10 (by omega)
  go_upto_region 51 with fail
  clear c1 f1
  have K10 : HeldM w (wf10.setCell ⟨m, 10, none⟩ (.float .f64 (r8))) A ec B a c ev m (updN M9 10 (r8)) := G10.out.set 10 (by omega) _
  clear G10
  obtain ⟨M10, hM10⟩ : ∃ M, M = (updN M9 10 (r8)) := ⟨_, rfl⟩
  rw [← hM10] at K10
  have KM10 : Hid (M10 = (updN M9 10 (r8))) := hM10
  have KK10 : Hid (HeldM w (wf10.setCell ⟨m, 10, none⟩ (.float .f64 (r8))) A ec B a c ev m M10) := K10
  clear K10 hM10
  generalize wf10.setCell ⟨m, 10, none⟩ (.float .f64 (r8)) = wm11 at *
  have f1 := KK10.out.free 11
  have c1 := KK10.out.cell 11 (by omega)
  have c2 : wm11.cell? ⟨w.heap.size + 1, 21, none⟩ = some (.int .i64 x0) := KK10.out.h.h.ev 21 _ (by rw [HEC.out]; rfl)
  go_upto_region 52 with fail
  clear c2
  clear c1 f1
  have K11 : HeldM w (wm11.setCell ⟨m, 11, none⟩ (.float .f64 (floatOfInt .f64 x0))) A ec B a c ev m (updN M10 11 (floatOfInt .f64 x0)) := KK10.out.set 11 (by omega) _
  clear KK10
  obtain ⟨M11, hM11⟩ : ∃ M, M = (updN M10 11 (floatOfInt .f64 x0)) := ⟨_, rfl⟩
  rw [← hM11] at K11
  have KM11 : Hid (M11 = (updN M10 11 (floatOfInt .f64 x0))) := hM11
  have KK11 : Hid (HeldM w (wm11.setCell ⟨m, 11, none⟩ (.float .f64 (floatOfInt .f64 x0))) A ec B a c ev m M11) := K11
  clear K11 hM11
  generalize wm11.setCell ⟨m, 11, none⟩ (.float .f64 (floatOfInt .f64 x0)) = wm12 at *
  have f1 := KK11.out.free 12
  have c1 := KK11.out.cell 12 (by omega)
  have c2 : wm12.cell? ⟨w.heap.size + 1, 22, none⟩ = some (.int .i64 x1) := KK11.out.h.h.ev 22 _ (by rw [HEC.out]; rfl)
  go_upto_region 53 with fail
  clear c2
  clear c1 f1
  have K12 : HeldM w (wm12.setCell ⟨m, 12, none⟩ (.float .f64 (floatOfInt .f64 x1))) A ec B a c ev m (updN M11 12 (floatOfInt .f64 x1)) := KK11.out.set 12 (by omega) _
  clear KK11
  obtain ⟨M12, hM12⟩ : ∃ M, M = (updN M11 12 (floatOfInt .f64 x1)) := ⟨_, rfl⟩
  rw [← hM12] at K12
  have KM12 : Hid (M12 = (updN M11 12 (floatOfInt .f64 x1))) := hM12
  have KK12 : Hid (HeldM w (wm12.setCell ⟨m, 12, none⟩ (.float .f64 (floatOfInt .f64 x1))) A ec B a c ev m M12) := K12
  clear K12 hM12
  generalize wm12.setCell ⟨m, 12, none⟩ (.float .f64 (floatOfInt .f64 x1)) = wm13 at *
  have f1 := KK12.out.free 13
  have c1 := KK12.out.cell 13 (by omega)
  have c2 : wm13.cell? ⟨w.heap.size + 1, 23, none⟩ = some (.int .i64 x2) := KK12.out.h.h.ev 23 _ (by rw [HEC.out]; rfl)
  go_upto_region 54 with fail
  clear c2
  clear c1 f1
  have K13 : HeldM w (wm13.setCell ⟨m, 13, none⟩ (.float .f64 (floatOfInt .f64 x2))) A ec B a c ev m (updN M12 13 (floatOfInt .f64 x2)) := KK12.out.set 13 (by omega) _
  clear KK12
  obtain ⟨M13, hM13⟩ : ∃ M, M = (updN M12 13 (floatOfInt .f64 x2)) := ⟨_, rfl⟩
  rw [← hM13] at K13
  have KM13 : Hid (M13 = (updN M12 13 (floatOfInt .f64 x2))) := hM13
  have KK13 : Hid (HeldM w (wm13.setCell ⟨m, 13, none⟩ (.float .f64 (floatOfInt .f64 x2))) A ec B a c ev m M13) := K13
  clear K13 hM13
  generalize wm13.setCell ⟨m, 13, none⟩ (.float .f64 (floatOfInt .f64 x2)) = wm14 at *
  have f1 := KK13.out.free 14
  have c1 := KK13.out.cell 14 (by omega)
  have c2 : wm14.cell? ⟨w.heap.size + 1, 24, none⟩ = some (.int .i64 x3) := KK13.out.h.h.ev 24 _ (by rw [HEC.out]; rfl)
  go_upto_region 55 with fail
  clear c2
  clear c1 f1
  have K14 : HeldM w (wm14.setCell ⟨m, 14, none⟩ (.float .f64 (floatOfInt .f64 x3))) A ec B a c ev m (updN M13 14 (floatOfInt .f64 x3)) := KK13.out.set 14 (by omega) _
  clear KK13
  obtain ⟨M14, hM14⟩ : ∃ M, M = (updN M13 14 (floatOfInt .f64 x3)) := ⟨_, rfl⟩
  rw [← hM14] at K14
  have KM14 : Hid (M14 = (updN M13 14 (floatOfInt .f64 x3))) := hM14
  have KK14 : Hid (HeldM w (wm14.setCell ⟨m, 14, none⟩ (.float .f64 (floatOfInt .f64 x3))) A ec B a c ev m M14) := K14
  clear K14 hM14
  generalize wm14.setCell ⟨m, 14, none⟩ (.float .f64 (floatOfInt .f64 x3)) = wm15 at *
  have f1 := KK14.out.free 15
  have c1 := KK14.out.cell 15 (by omega)
  have c2 : wm15.cell? ⟨w.heap.size + 1, 25, none⟩ = some (.int .i64 x4) := KK14.out.h.h.ev 25 _ (by rw [HEC.out]; rfl)
  go_upto_region 56 with fail
  clear c2
  clear c1 f1
  have K15 : HeldM w (wm15.setCell ⟨m, 15, none⟩ (.float .f64 (floatOfInt .f64 x4))) A ec B a c ev m (updN M14 15 (floatOfInt .f64 x4)) := KK14.out.set 15 (by omega) _
  clear KK14
  obtain ⟨M15, hM15⟩ : ∃ M, M = (updN M14 15 (floatOfInt .f64 x4)) := ⟨_, rfl⟩
  rw [← hM15] at K15
  have KM15 : Hid (M15 = (updN M14 15 (floatOfInt .f64 x4))) := hM15
  have KK15 : Hid (HeldM w (wm15.setCell ⟨m, 15, none⟩ (.float .f64 (floatOfInt .f64 x4))) A ec B a c ev m M15) := K15
  clear K15 hM15
  generalize wm15.setCell ⟨m, 15, none⟩ (.float .f64 (floatOfInt .f64 x4)) = wm16 at *
  have f1 := KK15.out.free 16
  have c1 := KK15.out.cell 16 (by omega)
  have c2 : wm16.cell? ⟨w.heap.size + 1, 26, none⟩ = some (.int .i64 x5) := KK15.out.h.h.ev 26 _ (by rw [HEC.out]; rfl)
  go_upto_region 57 with fail
  clear c2
  clear c1 f1
  have K16 : HeldM w (wm16.setCell ⟨m, 16, none⟩ (.float .f64 (floatOfInt .f64 x5))) A ec B a c ev m (updN M15 16 (floatOfInt .f64 x5)) := KK15.out.set 16 (by omega) _
  clear KK15
  obtain ⟨M16, hM16⟩ : ∃ M, M = (updN M15 16 (floatOfInt .f64 x5)) := ⟨_, rfl⟩
  rw [← hM16] at K16
  have KM16 : Hid (M16 = (updN M15 16 (floatOfInt .f64 x5))) := hM16
  have KK16 : Hid (HeldM w (wm16.setCell ⟨m, 16, none⟩ (.float .f64 (floatOfInt .f64 x5))) A ec B a c ev m M16) := K16
  clear K16 hM16
  generalize wm16.setCell ⟨m, 16, none⟩ (.float .f64 (floatOfInt .f64 x5)) = wm17 at *
  have f1 := KK16.out.free 17
  have c1 := KK16.out.cell 17 (by omega)
  go_upto_region 58 with fail
  clear c1 f1
  have K17 : HeldM w (wm17.setCell ⟨m, 17, none⟩ (.float .f64 (scanB sc))) A ec B a c ev m (updN M16 17 (scanB sc)) := KK16.out.set 17 (by omega) _
  clear KK16
  obtain ⟨M17, hM17⟩ : ∃ M, M = (updN M16 17 (scanB sc)) := ⟨_, rfl⟩
  rw [← hM17] at K17
  have KM17 : Hid (M17 = (updN M16 17 (scanB sc))) := hM17
  have KK17 : Hid (HeldM w (wm17.setCell ⟨m, 17, none⟩ (.float .f64 (scanB sc))) A ec B a c ev m M17) := K17
  clear K17 hM17
  generalize wm17.setCell ⟨m, 17, none⟩ (.float .f64 (scanB sc)) = wm18 at *
  have f1 := KK17.out.free 18
  have c1 := KK17.out.cell 18 (by omega)
  have c2 : wm18.cell? ⟨w.heap.size + 1, 2, none⟩ = some (.int .i64 Pr) := KK17.out.h.h.ev 2 _ (by rw [HEC.out]; rfl)
  go_upto_region 59 with fail
  clear c2
  clear c1 f1
  have K18 : HeldM w (wm18.setCell ⟨m, 18, none⟩ (.float .f64 (floatOfInt .f64 Pr))) A ec B a c ev m (updN M17 18 (floatOfInt .f64 Pr)) := KK17.out.set 18 (by omega) _
  clear KK17
  obtain ⟨M18, hM18⟩ : ∃ M, M = (updN M17 18 (floatOfInt .f64 Pr)) := ⟨_, rfl⟩
  rw [← hM18] at K18
  have KM18 : Hid (M18 = (updN M17 18 (floatOfInt .f64 Pr))) := hM18
  have KK18 : Hid (HeldM w (wm18.setCell ⟨m, 18, none⟩ (.float .f64 (floatOfInt .f64 Pr))) A ec B a c ev m M18) := K18
  clear K18 hM18
  generalize wm18.setCell ⟨m, 18, none⟩ (.float .f64 (floatOfInt .f64 Pr)) = wm19 at *
  have ha := add_run (r := mm 0) (a := floatOfInt .f64 N) (by have h := H0.out; rw [HLL.out, getD_zero] at h; exact h)
  have hN : M18 0 = floatOfInt .f64 N := by rw [KM18.out, KM17.out, KM16.out, KM15.out, KM14.out, KM13.out, KM12.out, KM11.out, KM10.out, KM9.out, KM8.out, KM7.out, KM6.out, KM5.out, KM4.out, KM3.out, KM2.out, KM1.out, KM0.out]; exact mrow_zero (floatOfInt .f64 N) r0 (floatOfInt .f64 G) r1 r2 r3 r4 r5 r6 r7 r8 (floatOfInt .f64 x0) (floatOfInt .f64 x1) (floatOfInt .f64 x2) (floatOfInt .f64 x3) (floatOfInt .f64 x4) (floatOfInt .f64 x5) (scanB sc) (floatOfInt .f64 Pr)
  have c1 : wm19.cell? ⟨m, 0, none⟩ = some (.float .f64 (floatOfInt .f64 N)) := (KK18.out.cell 0 (by omega)).trans (by rw [hN])
  have f1 := KK18.out.free 0
  clear hN
  go_cut [361] from 358 to 360 (fun _ wd => wd = wm19.setCell ⟨m, 0, none⟩ (.float .f64 (mm 0)))
  case first =>
    go_wp2
    go_meet
    case rel => rfl
  case rest =>
    subst hcut
    clear ha c1 f1
    refine use_hyp (by assumption) ?_
    have hfin : ∀ i, i < 19 → updN M18 0 (mm 0) i = mm i := by
      have h := HM.out
      rw [HLL.out] at h
      rw [KM18.out, KM17.out, KM16.out, KM15.out, KM14.out, KM13.out, KM12.out, KM11.out, KM10.out, KM9.out, KM8.out, KM7.out, KM6.out, KM5.out, KM4.out, KM3.out, KM2.out, KM1.out, KM0.out]
      exact mrow_fin (floatOfInt .f64 N) r0 (floatOfInt .f64 G) r1 r2 r3 r4 r5 r6 r7 r8 (floatOfInt .f64 x0) (floatOfInt .f64 x1) (floatOfInt .f64 x2) (floatOfInt .f64 x3) (floatOfInt .f64 x4) (floatOfInt .f64 x5) (scanB sc) (floatOfInt .f64 Pr) mm h
    have HF := (KK18.out.set 0 (by omega) (mm 0)).congr hfin
    exact tail60 w _ A ec B a c ev m mm bb qq A1 HF HD HBB HQQ _ _ _ _ _ _ _ _ _ _ _ _ _ _ _ _ _ _ _ _ _ _ _ _ _ _ _ _ _ _ _ _ _ _ _ _ _ _ _ _ _ _ _ _ _ _ _ _ _ _ _ _ _ _ _ _ _ _ _ _ _ _ _ _ _ _ _ _ _ _ _ _ _ _ _ _ _ _ _ _ _ _ _ _ _ _ _ _ _ _ _ _ _ _ _ _ _ _ _ _ _ _ _ _ _ _ _ _ _ _ _ _ _ _ _ _ _ _ _ _ _ _ _ _ _ _ _ _ _ _ _ _ _ _ _ _ _ _ _ _ _ _ _ _ _ _ _ _ _ _ _ _ _ _ _ _ _ _ _ _ _ _ _ _ _ _ _ _ _ _ _ _ _ _ _ _ _ _ _ _ _ _ _ _ _ _ _ _ _ _ _ _ _ _ _ _ _ _ _ _ _ _ _ _ _ _ _ _ _ _ _ _ _ _ _ _ _ _ _ _ _ _ _ _ _ _ _ _ _ _ _ _ _ _ _ _ _ _ _ _ _ _ _ _ _ _ _ _ _ _ _ _ _ _ _ _ _ _ _ _ _ _ _ _ _ _ _ _ _ _ _ _ _ _ _ _ _ _ _ _ _ _ _ _ _ _ _ _ _ _ _ _ _ _ _ _ _ _ _ _ _ _ _ _ _ _ _ _ _ _ _ _ _ _ _ _ _ _ _ _ _ _ _ _ _ _ _ _ _ _ _ _ _ _ _ _ _ _ _ _ _ _ _ _ _ _ _ _ _ _ _ _ _ _ _ _ _ _ _ _ _ _ _ _ _ _ _ _ _ _ _ _ _ _ _ _ _ _ _ _ _ _ _ _ _ _ _ _ _ _ _ _ _ _ _ _ _ _ _ _ _ _ _
end Go.Proofs.YbulkdhacDoor
