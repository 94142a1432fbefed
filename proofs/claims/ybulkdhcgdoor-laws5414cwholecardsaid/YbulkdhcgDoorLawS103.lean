/-
  The law from region 103 on: textAt, the comparison, the last loop.
-/
import Derived.Test.YbulkdhcgDoorLaw0
namespace Go.Proofs.YbulkdhcgDoor
open Go.RowKit

noncomputable def rest103 : Code := (Ybad.f3.body.bind (restFrom 103)).getD .skip
theorem textAt_st (d : TreeD) (w : World) (h : d.At w.heap.size w) : Calls Ybad.prog 8 #[.pointer (some ⟨d.bt, 0, none⟩), .slice (some ⟨d.bi, 0, none⟩) d.nA d.ci, .slice (some ⟨d.bd, 0, none⟩) d.nA d.cd] w fun e w' => e = .returned (.string (st (d.out d.xs))) ∧ Below w.heap.size w w' := textAt_any d w h
theorem xfr_below {w W : World} (h : XFr w W (fun _ => False)) : Below w.heap.size w W := ⟨h.os, h.tape, h.output, h.size, fun k hk => h.blk k hk (fun e => e)⟩
theorem XFr.drew {w W : World} {U : Nat → Prop} (h : XFr w W U) (n : Nat) : XFr w (W.drewN n) U := ⟨h.os, h.tape, h.output, h.size, h.blk⟩
set_option maxRecDepth 100000 in
set_option maxHeartbeats 8000000 in
theorem s103 (w0 W : World) (d : TreeD) (hA : d.At W.heap.size W) (hb : Below w0.heap.size w0 W) (bk ck : Nat) (hk : ∀ a, a < d.nA → W.cell? ⟨bk, a, none⟩ = some (.int .u32 (d.ins a : Nat))) (C n : Nat) (vw : Value) (hw : W.ownsRow C 5 1 vw n (bcs (d.out d.xs)))
    {v0 v1 v2 v3 v4 v5 v6 v7 v8 v9 v10 v11 v13 v14 v15 v17 v19 v20 v21 v22 v23 v24 v25 v26 v27 v28 v29 v30 v31 v32 v33 v34 v35 v36 v37 v38 v39 v41 v44 v45 v46 v47 v48 v49 v50 v51 v53 v54 v55 v56 v57 v58 v59 v60 v61 v62 v63 v64 v65 v66 v67 v68 v69 v70 v71 v72 v73 v74 v75 v76 v77 v78 v79 v80 v81 v82 v83 v84 v85 v86 v87 v88 v89 v90 v91 v92 v93 v94 v95 v96 v97 v98 v99 v100 v101 v102 v103 v104 v105 v106 v107 v108 v109 v110 v111 v112 v113 v114 v115 v116 v117 v118 v119 v120 v121 v122 v123 v124 v125 v126 v127 v128 v129 v130 v131 v132 v133 v134 v135 v136 v137 v138 v139 v140 v141 v142 v143 v144 v145 v146 v147 v148 v149 v150 v151 v152 v153 v154 v155 v156 v157 v158 v159 v160 v161 v162 v163 v164 v165 v166 v167 v168 v169 v170 v171 v172 v173 v174 v175 v176 v177 v178 v179 v180 v181 v182 v183 v184 v185 v186 v187 v188 v189 v190 v191 v192 v193 v194 v195 v196 v197 v198 v199 v200 v201 v202 v203 v204 v205 v206 v207 v208 v209 v210 v211 v212 v213 v214 v215 v216 v217 v218 v219 v220 v221 v222 v223 v224 v225 v226 v227 v228 v229 v230 v231 v232 v233 v234 v235 v236 v237 v238 v239 v240 v241 v242 v243 v244 v245 v246 v247 v248 v249 v250 v251 v252 v253 v254 v255 v256 v257 v258 v259 v260 v261 v262 v263 v264 v265 v266 v267 v268 v269 v270 v271 v272 v273 v274 v275 v276 v277 v278 v279 v280 v281 v282 v283 v284 v285 v286 v287 v288 v289 v290 v291 v292 v293 v294 v295 v296 v297 v298 v299 v300 v301 v302 v303 v304 v305 v306 v307 v308 v309 v310 v311 v312 v313 v314 v315 v316 v317 v318 v319 v320 v321 v322 v323 v324 v325 v326 v327 v328 v329 v330 v331 v332 v333 v334 v335 v336 v337 v338 v339 v340 v341 v342 v343 v344 v345 v346 v347 v348 v349 v350 v351 v352 v353 v354 v355 v356 v357 v358 v359 v360 v361 v362 v363 v364 v365 v366 v367 v368 v369 v370 v371 v372 v373 v374 v375 v376 v377 v378 v379 v380 v381 v382 v383 v384 v385 v386 v387 v388 v389 v390 v391 v392 v393 v394 v395 v396 v397 v398 v399 v400 v401 v402 v403 v404 v405 v406 v407 v408 v409 v410 v411 v412 v413 v414 v415 v416 v417 v418 v419 v420 v421 v422 v423 v424 v425 v426 v427 v428 v429 v430 v431 v432 v433 v434 v435 v436 v437 v438 v439 v440 v441 v442 v443 v444 v445 v446 v447 v448 v449 v450 v451 v452 v453 v454 v455 v456 v457 v458 v459 v460 v461 v462 v463 v464 v465 v466 : Value} :
    Code.wp Ybad.prog rest103 (bodyPost Ybad.prog Ybad.f3 (lawPost w0)) ⟨#[v0, v1, v2, v3, v4, v5, v6, v7, v8, v9, v10, v11, .bool false, v13, v14, v15, .int .i64 (d.nA : Nat), v17, .pointer (some ⟨d.bt, 0, none⟩), v19, v20, v21, v22, v23, v24, v25, v26, v27, v28, v29, v30, v31, v32, v33, v34, v35, v36, v37, v38, v39, .slice (some ⟨d.bi, 0, none⟩) d.nA d.ci, v41, .slice (some ⟨bk, 0, none⟩) d.nA ck, .slice (some ⟨d.bd, 0, none⟩) d.nA d.cd, v44, v45, v46, v47, v48, v49, v50, v51, vw, v53, v54, v55, v56, v57, v58, v59, v60, v61, v62, v63, v64, v65, v66, v67, v68, v69, v70, v71, v72, v73, v74, v75, v76, v77, v78, v79, v80, v81, v82, v83, v84, v85, v86, v87, v88, v89, v90, v91, v92, v93, v94, v95, v96, v97, v98, v99, v100, v101, v102, v103, v104, v105, v106, v107, v108, v109, v110, v111, v112, v113, v114, v115, v116, v117, v118, v119, v120, v121, v122, v123, v124, v125, v126, v127, v128, v129, v130, v131, v132, v133, v134, v135, v136, v137, v138, v139, v140, v141, v142, v143, v144, v145, v146, v147, v148, v149, v150, v151, v152, v153, v154, v155, v156, v157, v158, v159, v160, v161, v162, v163, v164, v165, v166, v167, v168, v169, v170, v171, v172, v173, v174, v175, v176, v177, v178, v179, v180, v181, v182, v183, v184, v185, v186, v187, v188, v189, v190, v191, v192, v193, v194, v195, v196, v197, v198, v199, v200, v201, v202, v203, v204, v205, v206, v207, v208, v209, v210, v211, v212, v213, v214, v215, v216, v217, v218, v219, v220, v221, v222, v223, v224, v225, v226, v227, v228, v229, v230, v231, v232, v233, v234, v235, v236, v237, v238, v239, v240, v241, v242, v243, v244, v245, v246, v247, v248, v249, v250, v251, v252, v253, v254, v255, v256, v257, v258, v259, v260, v261, v262, v263, v264, v265, v266, v267, v268, v269, v270, v271, v272, v273, v274, v275, v276, v277, v278, v279, v280, v281, v282, v283, v284, v285, v286, v287, v288, v289, v290, v291, v292, v293, v294, v295, v296, v297, v298, v299, v300, v301, v302, v303, v304, v305, v306, v307, v308, v309, v310, v311, v312, v313, v314, v315, v316, v317, v318, v319, v320, v321, v322, v323, v324, v325, v326, v327, v328, v329, v330, v331, v332, v333, v334, v335, v336, v337, v338, v339, v340, v341, v342, v343, v344, v345, v346, v347, v348, v349, v350, v351, v352, v353, v354, v355, v356, v357, v358, v359, v360, v361, v362, v363, v364, v365, v366, v367, v368, v369, v370, v371, v372, v373, v374, v375, v376, v377, v378, v379, v380, v381, v382, v383, v384, v385, v386, v387, v388, v389, v390, v391, v392, v393, v394, v395, v396, v397, v398, v399, v400, v401, v402, v403, v404, v405, v406, v407, v408, v409, v410, v411, v412, v413, v414, v415, v416, v417, v418, v419, v420, v421, v422, v423, v424, v425, v426, v427, v428, v429, v430, v431, v432, v433, v434, v435, v436, v437, v438, v439, v440, v441, v442, v443, v444, v445, v446, v447, v448, v449, v450, v451, v452, v453, v454, v455, v456, v457, v458, v459, v460, v461, v462, v463, v464, v465, v466], []⟩ W := by
  have HA : Hid (d.At W.heap.size W) := hA
  have HB : Hid (Below w0.heap.size w0 W) := hb
  have HK : Hid (∀ a, a < d.nA → W.cell? ⟨bk, a, none⟩ = some (.int .u32 (d.ins a : Nat))) := hk
  have HW : Hid (W.ownsRow C 5 1 vw n (bcs (d.out d.xs))) := hw
  have HT := textAt_st d W hA
  have hnA := hA.nA
  obtain ⟨s, hs⟩ : ∃ s, s = st (d.out d.xs) := ⟨_, rfl⟩
  have HS : Hid (s = st (d.out d.xs)) := hs
  rw [← hs] at HT
  have HTX : Hid (Calls Ybad.prog 8 #[.pointer (some ⟨d.bt, 0, none⟩), .slice (some ⟨d.bi, 0, none⟩) d.nA d.ci, .slice (some ⟨d.bd, 0, none⟩) d.nA d.cd] W fun e w' => e = .returned (.string s) ∧ Below W.heap.size W w') := HT
  clear hA hb hk hw hs HT
  conv => arg 2; whnf
  conv => arg 4; dsimp only
  go_wp2_with fail
  refine Calls.mono HTX.out ?_
  rintro e w' ⟨rfl, hbw⟩
  have HBW : Hid (Below W.heap.size W w') := hbw
  have hcv : ∀ W', XFr w' W' (fun _ => False) → (convert 27 9 vw).run Ybad.prog W' = .ok (.string s) W' := fun W' hx => by
    rw [HS.out]
    exact conv_own HW.out W' (fun g hg => (hx.blk g (Nat.lt_of_lt_of_le (HW.out.lt g hg).2 hbw.size) (fun e => e)).trans (hbw.block g (HW.out.lt g hg).2))
  have hcv0 := hcv w' (XFr.refl _ _)
  clear hbw hcv HTX
  go_wp2
  clear hcv0
  go_loopw [57] (fun v wr => ∃ a : Nat, v = .int .i64 a ∧ a ≤ d.nA ∧ XFr w' wr (fun _ => False)) (fun v _ => d.nA - (intOf v).toNat)
  case atStart => exact ⟨0, rfl, Nat.zero_le _, XFr.refl _ _⟩
  case round =>
    obtain ⟨a, rfl, ha, hx⟩ := hrel
    have HX : Hid (XFr w' wr (fun _ => False)) := hx
    clear hx
    by_cases h : a < d.nA
    · have e1 : (a : Int) < (d.nA : Int) := by omega
      have c1 : wr.cell? ⟨d.bi, a, none⟩ = some (.int .u32 (d.ins a : Nat)) := ((xfr_below HX.out).cell (Nat.lt_of_lt_of_le HA.out.l6 HBW.out.size)).trans ((HBW.out.cell HA.out.l6).trans (HA.out.ins a h))
      have c2 : wr.cell? ⟨bk, a, none⟩ = some (.int .u32 (d.ins a : Nat)) := by
        have hl := World.block_lt_of_cell? W _ (HK.out a h)
        exact ((xfr_below HX.out).cell (Nat.lt_of_lt_of_le hl HBW.out.size)).trans ((HBW.out.cell hl).trans (HK.out a h))
      go_wp2
      go_quiet (fail)
      go_wp2
      go_roundw
      case rel => exact ⟨a + 1, by go_num, by omega, HX.out.drew _⟩
      case measure => simp [intOf]; go_num
    · have e1 : ¬ (a : Int) < (d.nA : Int) := by omega
      go_wp2
      go_ret
      exact ⟨rfl, HB.out.trans ((HBW.out.trans ((xfr_below HX.out).mono HBW.out.size)).mono HB.out.size)⟩
end Go.Proofs.YbulkdhcgDoor
