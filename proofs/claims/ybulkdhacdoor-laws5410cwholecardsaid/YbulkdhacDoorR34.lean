/-
  The law from the region on that holds the events against each other.
-/
import Derived.Test.YbulkdhacDoorNeq
import Derived.Test.YbulkdhacDoorFl
namespace Go.Proofs.YbulkdhacDoor
open Go.RowKit Floats
attribute [local go_sem] run_store_flt alloc_drewN setCell_drewN

noncomputable def rest34 : Code := (Ybad.f3.body.bind (restFrom 34)).getD .skip

set_option maxRecDepth 100000 in
set_option maxHeartbeats 8000000 in
theorem tail34 (b0 : Bool) (F : Nat → Nat) (I : Nat → Int) (w wr : World) (ec : List Value) (B : Nat → Value) (a c : Nat) (ev : List Value) (mm bb qq : Nat → Nat) (N G Pr x0 x1 x2 x3 x4 x5 d0 d1 d2 d3 d4 d5 d6 d7 d8 p0 p1 p2 p3 p4 p5 p6 p7 p8 : Int) (n0 n1 n2 n3 n4 n5 n6 n7 n8 : Nat) (sc fo pe : Bool) (r0 r1 r2 r3 r4 r5 r6 r7 r8 : Nat) (L : List Nat)
    (HEC : Hid (ec = [.int .i64 N, .int .i64 G, .int .i64 Pr, .int .u64 d0, .int .u64 d1, .int .u64 d2, .int .u64 d3, .int .u64 d4, .int .u64 d5, .int .u64 d6, .int .u64 d7, .int .u64 d8, .int .u8 p0, .int .u8 p1, .int .u8 p2, .int .u8 p3, .int .u8 p4, .int .u8 p5, .int .u8 p6, .int .u8 p7, .int .u8 p8, .int .i64 x0, .int .i64 x1, .int .i64 x2, .int .i64 x3, .int .i64 x4, .int .i64 x5, .bool sc, .bool fo, .bool pe])) (HEV : Hid (ev = [.int .i64 N, .int .u64 d0, .int .u8 ((n0 : Nat) : Int), .int .i64 G, .int .u64 d1, .int .u8 ((n1 : Nat) : Int), .int .u64 d2, .int .u8 ((n2 : Nat) : Int), .int .u64 d3, .int .u8 ((n3 : Nat) : Int), .int .u64 d4, .int .u8 ((n4 : Nat) : Int), .int .u64 d5, .int .u8 ((n5 : Nat) : Int), .int .u64 d6, .int .u8 ((n6 : Nat) : Int), .int .u64 d7, .int .u8 ((n7 : Nat) : Int), .int .u64 d8, .int .u8 ((n8 : Nat) : Int), .int .i64 x0, .int .i64 x1, .int .i64 x2, .int .i64 x3, .int .i64 x4, .int .i64 x5, .bool sc, .int .i64 Pr, .bool fo, .bool pe])) (HQ : Hid ((Ev.mk N G Pr x0 x1 x2 x3 x4 x5 d0 d1 d2 d3 d4 d5 d6 d7 d8 n0 n1 n2 n3 n4 n5 n6 n7 n8 sc fo pe).Quo r0 r1 r2 r3 r4 r5 r6 r7 r8)) (HFT : Hid ((Ev.mk N G Pr x0 x1 x2 x3 x4 x5 d0 d1 d2 d3 d4 d5 d6 d7 d8 n0 n1 n2 n3 n4 n5 n6 n7 n8 sc fo pe).Fit)) (HLL : Hid (L = [floatOfInt .f64 N, r0, floatOfInt .f64 G, r1, r2, r3, r4, r5, r6, r7, r8, floatOfInt .f64 x0, floatOfInt .f64 x1, floatOfInt .f64 x2, floatOfInt .f64 x3, floatOfInt .f64 x4, floatOfInt .f64 x5, scanB sc, floatOfInt .f64 Pr]))
    (H0 : Hid (floatBits .add .f64 (L.getD 0 0) one64 = some (mm 0))) (HM : Hid (∀ i, 0 < i → i < 19 → L.getD i 0 = mm i)) (HBB : Hid (∀ i, i < 19 → floatBits .add .f64 (mm i) one64 = some (bb i))) (HQQ : Hid (∀ i, i < 19 → floatBits .quo .f64 one64 (bb i) = some (qq i)))
    (HD : Hid (Done B 19 mm bb qq (upd (recN (yv b0 F I) 64) 0 (.bool false))))
    (H1 : Hid (HeldP w wr (yv b0 F I) ec B a c ev))
    (v0 v1 v2 v3 v4 v6 v8 v11 v12 v13 v14 v15 v16 v17 v18 v19 v20 v21 v22 v23 v24 v25 v26 v27 v28 v29 v30 v31 v32 v33 v34 v35 v36 v37 v38 v39 v40 v41 v42 v43 v44 v45 v46 v47 v48 v49 v50 v51 v52 v53 v54 v55 v56 v57 v58 v59 v60 v61 v62 v63 v64 v65 v66 v67 v68 v69 v70 v71 v72 v73 v74 v75 v76 v77 v78 v79 v80 v81 v82 v83 v84 v85 v86 v87 v88 v89 v90 v91 v92 v93 v94 v95 v96 v97 v98 v99 v100 v101 v102 v103 v104 v105 v106 v107 v108 v109 v110 v111 v112 v113 v114 v115 v116 v117 v118 v119 v120 v121 v122 v123 v124 v125 v126 v127 v128 v129 v130 v131 v132 v133 v134 v135 v136 v137 v138 v139 v140 v141 v142 v143 v144 v145 v146 v147 v148 v149 v150 v151 v152 v153 v154 v155 v156 v157 v158 v159 v160 v161 v162 v163 v164 v165 v166 v167 v168 v169 v170 v171 v172 v173 v174 v175 v176 v177 v178 v179 v180 v181 v182 v183 v184 v185 v186 v187 v188 v189 v190 v191 v192 v193 v194 v195 v196 v197 v198 v199 v200 v201 v202 v203 v204 v205 v206 v207 v208 v209 v210 v211 v212 v213 v214 v215 v216 v217 v218 v219 v220 v221 v222 v223 v224 v225 v226 v227 v228 v229 v230 v231 v232 v233 v234 v235 v236 v237 v238 v239 v240 v241 v242 v243 v244 v245 v246 v247 v248 v249 v250 v251 v252 v253 v254 v255 v256 v257 v258 v259 v260 v261 v262 v263 v264 v265 v266 v267 v268 v269 v270 v271 v272 v273 v274 v275 v276 v277 v278 v279 v280 v281 v282 v283 v284 v285 v286 v287 v288 v289 v290 v291 v292 v293 v294 v295 v296 v297 v298 v299 v300 v301 v302 v303 v304 v305 v306 v307 v308 v309 v310 v311 v312 v313 v314 v315 v316 v317 v318 v319 v320 v321 v322 v323 v324 v325 v326 v327 v328 v329 v330 v331 v332 v333 v334 v335 v336 v337 v338 v339 v340 v341 v342 v343 v344 v345 v346 v347 v348 v349 v350 v351 v352 v353 v354 v355 v356 v357 v358 v359 v360 v361 v362 v363 v364 v365 v366 v367 v368 v369 v370 v371 v372 v373 v374 v375 v376 v377 v378 v379 v380 v381 v382 v383 v384 v385 v386 v387 v388 v389 v390 v391 v392 v393 v394 v395 v396 v397 v398 v399 v400 v401 v402 v403 v404 : Value) :
    Code.wp Ybad.prog rest34 (bodyPost Ybad.prog Ybad.f3 fun e w' => e = .returned (.bool true) ∧ Below w.heap.size w w') ⟨#[v0, v1, v2, v3, v4, .pointer (some ⟨w.heap.size + 1, 0, none⟩), v6, .pointer (some ⟨w.heap.size + 1 + 1, 0, none⟩), v8, .pointer (some ⟨a, 0, none⟩), .pointer (some ⟨c, 0, none⟩), v11, v12, v13, v14, v15, v16, v17, v18, v19, v20, v21, v22, v23, v24, v25, v26, v27, v28, v29, v30, v31, v32, v33, v34, v35, v36, v37, v38, v39, v40, v41, v42, v43, v44, v45, v46, v47, v48, v49, v50, v51, v52, v53, v54, v55, v56, v57, v58, v59, v60, v61, v62, v63, v64, v65, v66, v67, v68, v69, v70, v71, v72, v73, v74, v75, v76, v77, v78, v79, v80, v81, v82, v83, v84, v85, v86, v87, v88, v89, v90, v91, v92, v93, v94, v95, v96, v97, v98, v99, v100, v101, v102, v103, v104, v105, v106, v107, v108, v109, v110, v111, v112, v113, v114, v115, v116, v117, v118, v119, v120, v121, v122, v123, v124, v125, v126, v127, v128, v129, v130, v131, v132, v133, v134, v135, v136, v137, v138, v139, v140, v141, v142, v143, v144, v145, v146, v147, v148, v149, v150, v151, v152, v153, v154, v155, v156, v157, v158, v159, v160, v161, v162, v163, v164, v165, v166, v167, v168, v169, v170, v171, v172, v173, v174, v175, v176, v177, v178, v179, v180, v181, v182, v183, v184, v185, v186, v187, v188, v189, v190, v191, v192, v193, v194, v195, v196, v197, v198, v199, v200, v201, v202, v203, v204, v205, v206, v207, v208, v209, v210, v211, v212, v213, v214, v215, v216, v217, v218, v219, v220, v221, v222, v223, v224, v225, v226, v227, v228, v229, v230, v231, v232, v233, v234, v235, v236, v237, v238, v239, v240, v241, v242, v243, v244, v245, v246, v247, v248, v249, v250, v251, v252, v253, v254, v255, v256, v257, v258, v259, v260, v261, v262, v263, v264, v265, v266, v267, v268, v269, v270, v271, v272, v273, v274, v275, v276, v277, v278, v279, v280, v281, v282, v283, v284, v285, v286, v287, v288, v289, v290, v291, v292, v293, v294, v295, v296, v297, v298, v299, v300, v301, v302, v303, v304, v305, v306, v307, v308, v309, v310, v311, v312, v313, v314, v315, v316, v317, v318, v319, v320, v321, v322, v323, v324, v325, v326, v327, v328, v329, v330, v331, v332, v333, v334, v335, v336, v337, v338, v339, v340, v341, v342, v343, v344, v345, v346, v347, v348, v349, v350, v351, v352, v353, v354, v355, v356, v357, v358, v359, v360, v361, v362, v363, v364, v365, v366, v367, v368, v369, v370, v371, v372, v373, v374, v375, v376, v377, v378, v379, v380, v381, v382, v383, v384, v385, v386, v387, v388, v389, v390, v391, v392, v393, v394, v395, v396, v397, v398, v399, v400, v401, v402, v403, v404], []⟩ wr := by
  conv => arg 2; whnf
  conv => arg 4; dsimp only
  go_upto_region 34 with fail
  go_cut [273] from 263 to 272 (fun v wd => v = .bool false ∧ ∃ n, wd = wr.drewN n)
  case first =>
    have c0 : wr.cell? ⟨w.heap.size + 1 + 1, 0, none⟩ = some (.bool false) := (H1.out.h.y1.cell 0 (by omega)).trans (by rw [done_0 HD.out])
    have HI : Hid ((Ybad.prog.info? 50).map (·.size) = some ev.length) := by rw [HEV.out]; show _ = some 30; kernel_rfl
    refine wp_region_quiet_lit (by kernel_rfl) (by kernel_rfl) ?_
    iterate 7 quiet_step (fail)
    refine wpQuiet_put (by rfl) (.agg ev.toArray) (fun W ⟨n, hn⟩ => quietAt_load 50 (.tmp 269) (by rfl) a 0 (by rfl) ev _ (by rw [hn]; exact (H1.out.drewN n).ea) Ybad.underlying50 (by rfl) HI.out) ?_
    refine wpQuiet_put (by rfl) (.agg ev.toArray) (fun W ⟨n, hn⟩ => quietAt_load 50 (.tmp 10) (by rfl) c 0 (by rfl) ev _ (by rw [hn]; exact (H1.out.drewN n).eb) Ybad.underlying50 (by rfl) HI.out) ?_
    refine wpQuiet_put (by rfl) (.bool false) (fun W _ => quietAt_neq (.tmp 270) (.tmp 271) (by rfl) ev HEV.out (by rfl) (by rfl)) ?_
    iterate 1 quiet_step (fail)
    refine wpQuiet_nil ?_
    intro _ hw'
    obtain ⟨nq, hw''⟩ := hw'
    subst hw''
    go_wp2
    go_meet
    case rel => exact ⟨rfl, _, rfl⟩
  case rest =>
    obtain ⟨rfl, n, rfl⟩ := hcut
    have H2 : Hid (HeldP w (wr.drewN n) (yv b0 F I) ec B a c ev) := H1.out.drewN n
    clear H1
    generalize wr.drewN n = wg at *
    have s1 : wg.cell? ⟨w.heap.size + 1, 27, none⟩ = some (.bool sc) := H2.out.h.ev 27 _ (by rw [HEC.out]; rfl)
    go_upto_if 275 with fail
    clear s1
    go_cut [14] from 274 to 275 (fun v wd => wg = wd ∧ v = .float .f64 (scanB sc))
    case first =>
      cases sc
      all_goals
        go_wp2
        go_meet
        case rel => exact ⟨rfl, rfl⟩
    case rest =>
      obtain ⟨rfl, rfl⟩ := hcut
      refine use_hyp (by assumption) ?_
      exact tail39 w _ (yv b0 F I) ec B a c ev mm bb qq _ N G Pr x0 x1 x2 x3 x4 x5 d0 d1 d2 d3 d4 d5 d6 d7 d8 p0 p1 p2 p3 p4 p5 p6 p7 p8 n0 n1 n2 n3 n4 n5 n6 n7 n8 sc fo pe r0 r1 r2 r3 r4 r5 r6 r7 r8 L HEC HEV HQ HFT HLL H0 HM H2 HD HBB HQQ _ _ _ _ _ _ _ _ _ _ _ _ _ _ _ _ _ _ _ _ _ _ _ _ _ _ _ _ _ _ _ _ _ _ _ _ _ _ _ _ _ _ _ _ _ _ _ _ _ _ _ _ _ _ _ _ _ _ _ _ _ _ _ _ _ _ _ _ _ _ _ _ _ _ _ _ _ _ _ _ _ _ _ _ _ _ _ _ _ _ _ _ _ _ _ _ _ _ _ _ _ _ _ _ _ _ _ _ _ _ _ _ _ _ _ _ _ _ _ _ _ _ _ _ _ _ _ _ _ _ _ _ _ _ _ _ _ _ _ _ _ _ _ _ _ _ _ _ _ _ _ _ _ _ _ _ _ _ _ _ _ _ _ _ _ _ _ _ _ _ _ _ _ _ _ _ _ _ _ _ _ _ _ _ _ _ _ _ _ _ _ _ _ _ _ _ _ _ _ _ _ _ _ _ _ _ _ _ _ _ _ _ _ _ _ _ _ _ _ _ _ _ _ _ _ _ _ _ _ _ _ _ _ _ _ _ _ _ _ _ _ _ _ _ _ _ _ _ _ _ _ _ _ _ _ _ _ _ _ _ _ _ _ _ _ _ _ _ _ _ _ _ _ _ _ _ _ _ _ _ _ _ _ _ _ _ _ _ _ _ _ _ _ _ _ _ _ _ _ _ _ _ _ _ _ _ _ _ _ _ _ _ _ _ _ _ _ _ _ _ _ _ _ _ _ _ _ _ _ _ _ _ _ _ _ _ _ _ _ _ _ _ _ _ _ _ _ _ _ _ _ _ _ _ _ _ _ _ _ _ _ _ _ _ _ _ _ _ _ _ _ _ _ _ _ _ _ _ _ _ _ _ _ _ _ _ _ _ _ _ _ _ _ _ _ _ _ _ _ _ _

end Go.Proofs.YbulkdhacDoor
