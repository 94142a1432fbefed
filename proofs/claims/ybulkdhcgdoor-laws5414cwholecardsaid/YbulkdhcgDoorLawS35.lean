/-
  The law from region 35 on: how many leaves.
-/
import Derived.Test.YbulkdhcgDoorLawS39
namespace Go.Proofs.YbulkdhcgDoor
open Go.RowKit

theorem leaves_plain {n p : Nat} (hp : 1 ≤ p) (hn : n ≤ 1024) (hp2 : p ≤ 64) : (n + p - 1) / p ≤ 1024 ∧ n ≤ ((n + p - 1) / p) * p ∧ ∀ i, i < n → i / p + 1 ≤ (n + p - 1) / p := by
  have h1 := Nat.div_add_mod (n + p - 1) p
  have h2 := Nat.mod_lt (n + p - 1) (y := p) (by omega)
  have e : p * ((n + p - 1) / p) = ((n + p - 1) / p) * p := Nat.mul_comm _ _
  refine ⟨?_, by omega, fun i hi => ?_⟩
  · rcases Nat.lt_or_ge 1024 ((n + p - 1) / p) with h | h
    · have h3 : 1025 * p ≤ ((n + p - 1) / p) * p := Nat.mul_le_mul_right _ h
      have h4 : 1024 * p + p = 1025 * p := by omega
      have h5 : 1024 ≤ 1024 * p := Nat.le_mul_of_pos_right _ hp
      omega
    · exact h
  · have h3 : i / p + 1 = (i + p) / p := (Nat.add_div_right i hp).symm
    rw [h3]
    exact Nat.div_le_div_right (by omega)
noncomputable def rest35 : Code := (Ybad.f3.body.bind (restFrom 35)).getD .skip
set_option maxRecDepth 100000 in
set_option maxHeartbeats 8000000 in
theorem s35 (I : Inp) (hsm : I.Sm) (w0 W : World) (hI : I.At w0) (bC bt bA : Nat) (bs cc bp bb bcap bm mcap : Nat → Nat) (tx : Nat → Mk) (hG : G3 I w0 W bC bt bA bs cc bp bb bcap bm mcap tx)
    {v0 v6 v7 v8 v9 v10 v11 v13 v14 v15 v19 v20 v21 v22 v23 v24 v25 v26 v27 v28 v29 v30 v31 v32 v33 v34 v35 v36 v37 v38 v39 v40 v41 v42 v43 v44 v45 v46 v47 v48 v49 v50 v51 v52 v53 v54 v55 v56 v57 v58 v59 v60 v61 v62 v63 v64 v65 v66 v67 v68 v69 v70 v71 v72 v73 v74 v75 v76 v77 v78 v79 v80 v81 v82 v83 v84 v85 v86 v87 v88 v89 v90 v91 v92 v93 v94 v95 v96 v97 v98 v99 v100 v101 v102 v103 v104 v105 v106 v107 v108 v109 v110 v111 v112 v113 v114 v115 v116 v117 v118 v119 v120 v121 v122 v123 v124 v125 v126 v127 v128 v129 v130 v131 v132 v133 v134 v135 v136 v137 v138 v139 v140 v141 v142 v143 v144 v145 v146 v147 v148 v149 v150 v151 v152 v153 v154 v155 v156 v157 v158 v159 v160 v161 v162 v163 v164 v165 v166 v167 v168 v169 v170 v171 v172 v173 v174 v175 v176 v177 v178 v179 v180 v181 v182 v183 v184 v185 v186 v187 v188 v189 v190 v191 v192 v193 v194 v195 v196 v197 v198 v199 v200 v201 v202 v203 v204 v205 v206 v207 v208 v209 v210 v211 v212 v213 v214 v215 v216 v217 v218 v219 v220 v221 v222 v223 v224 v225 v226 v227 v228 v229 v230 v231 v232 v233 v234 v235 v236 v237 v238 v239 v240 v241 v242 v243 v244 v245 v246 v247 v248 v249 v250 v251 v252 v253 v254 v255 v256 v257 v258 v259 v260 v261 v262 v263 v264 v265 v266 v267 v268 v269 v270 v271 v272 v273 v274 v275 v276 v277 v278 v279 v280 v281 v282 v283 v284 v285 v286 v287 v288 v289 v290 v291 v292 v293 v294 v295 v296 v297 v298 v299 v300 v301 v302 v303 v304 v305 v306 v307 v308 v309 v310 v311 v312 v313 v314 v315 v316 v317 v318 v319 v320 v321 v322 v323 v324 v325 v326 v327 v328 v329 v330 v331 v332 v333 v334 v335 v336 v337 v338 v339 v340 v341 v342 v343 v344 v345 v346 v347 v348 v349 v350 v351 v352 v353 v354 v355 v356 v357 v358 v359 v360 v361 v362 v363 v364 v365 v366 v367 v368 v369 v370 v371 v372 v373 v374 v375 v376 v377 v378 v379 v380 v381 v382 v383 v384 v385 v386 v387 v388 v389 v390 v391 v392 v393 v394 v395 v396 v397 v398 v399 v400 v401 v402 v403 v404 v405 v406 v407 v408 v409 v410 v411 v412 v413 v414 v415 v416 v417 v418 v419 v420 v421 v422 v423 v424 v425 v426 v427 v428 v429 v430 v431 v432 v433 v434 v435 v436 v437 v438 v439 v440 v441 v442 v443 v444 v445 v446 v447 v448 v449 v450 v451 v452 v453 v454 v455 v456 v457 v458 v459 v460 v461 v462 v463 v464 v465 v466 : Value} :
    Code.wp Ybad.prog rest35 (bodyPost Ybad.prog Ybad.f3 (lawPost w0)) ⟨#[v0, .slice I.a1 I.n1 I.k1, .int .u8 (I.per : Nat), .int .u64 (I.lv : Nat), .slice I.a4 I.n4 I.k4, .slice I.a5 I.n5 I.k5, v6, v7, v8, v9, v10, v11, .bool false, v13, v14, v15, .int .i64 (I.nA : Nat), .slice (some ⟨bC, 0, none⟩) I.nA I.nA, .pointer (some ⟨bt, 0, none⟩), v19, v20, v21, v22, v23, v24, v25, v26, v27, v28, v29, v30, v31, v32, v33, v34, v35, v36, v37, v38, v39, v40, v41, v42, v43, v44, v45, v46, v47, v48, v49, v50, v51, v52, v53, v54, v55, v56, v57, v58, v59, v60, v61, v62, v63, v64, v65, v66, v67, v68, v69, v70, v71, v72, v73, v74, v75, v76, v77, v78, v79, v80, v81, v82, v83, v84, v85, v86, v87, v88, v89, v90, v91, v92, v93, v94, v95, v96, v97, v98, v99, v100, v101, v102, v103, v104, v105, v106, v107, v108, v109, v110, v111, v112, v113, v114, v115, v116, v117, v118, v119, v120, v121, v122, v123, v124, v125, v126, v127, v128, v129, v130, v131, v132, v133, v134, v135, v136, v137, v138, v139, v140, v141, v142, v143, v144, v145, v146, v147, v148, v149, v150, v151, v152, v153, v154, v155, v156, v157, v158, v159, v160, v161, v162, v163, v164, v165, v166, v167, v168, v169, v170, v171, v172, v173, v174, v175, v176, v177, v178, v179, v180, v181, v182, v183, v184, v185, v186, v187, v188, v189, v190, v191, v192, v193, v194, v195, v196, v197, v198, v199, v200, v201, v202, v203, v204, v205, v206, v207, v208, v209, v210, v211, v212, v213, v214, v215, v216, v217, v218, v219, v220, v221, v222, v223, v224, v225, v226, v227, v228, v229, v230, v231, v232, v233, v234, v235, v236, v237, v238, v239, v240, v241, v242, v243, v244, v245, v246, v247, v248, v249, v250, v251, v252, v253, v254, v255, v256, v257, v258, v259, v260, v261, v262, v263, v264, v265, v266, v267, v268, v269, v270, v271, v272, v273, v274, v275, v276, v277, v278, v279, v280, v281, v282, v283, v284, v285, v286, v287, v288, v289, v290, v291, v292, v293, v294, v295, v296, v297, v298, v299, v300, v301, v302, v303, v304, v305, v306, v307, v308, v309, v310, v311, v312, v313, v314, v315, v316, v317, v318, v319, v320, v321, v322, v323, v324, v325, v326, v327, v328, v329, v330, v331, v332, v333, v334, v335, v336, v337, v338, v339, v340, v341, v342, v343, v344, v345, v346, v347, v348, v349, v350, v351, v352, v353, v354, v355, v356, v357, v358, v359, v360, v361, v362, v363, v364, v365, v366, v367, v368, v369, v370, v371, v372, v373, v374, v375, v376, v377, v378, v379, v380, v381, v382, v383, v384, v385, v386, v387, v388, v389, v390, v391, v392, v393, v394, v395, v396, v397, v398, v399, v400, v401, v402, v403, v404, v405, v406, v407, v408, v409, v410, v411, v412, v413, v414, v415, v416, v417, v418, v419, v420, v421, v422, v423, v424, v425, v426, v427, v428, v429, v430, v431, v432, v433, v434, v435, v436, v437, v438, v439, v440, v441, v442, v443, v444, v445, v446, v447, v448, v449, v450, v451, v452, v453, v454, v455, v456, v457, v458, v459, v460, v461, v462, v463, v464, v465, v466], []⟩ W := by
  have hn1 := hsm.n1
  have hper := hI.per
  obtain ⟨p, hp⟩ : ∃ p, p = 1 + I.per % 64 := ⟨_, rfl⟩
  have ep : 1 + (I.per : Int) % 64 = (p : Int) := by omega
  have hp1 : 1 ≤ p := by omega
  have hp2 : p ≤ 64 := by omega
  obtain ⟨l1, l2, l3⟩ := leaves_plain hp1 hn1 hp2
  obtain ⟨q, hq⟩ : ∃ q, q = (I.n1 + p - 1) / p := ⟨_, rfl⟩
  have eq : ((I.n1 : Int) + (p : Int) - 1) / (p : Int) = (q : Int) := by
    have h5 : (I.n1 : Int) + (p : Int) - 1 = ((I.n1 + p - 1 : Nat) : Int) := by omega
    rw [h5, hq]; exact (Int.natCast_ediv _ _).symm
  rw [← hq] at l1 l2 l3
  have L2 : Hid (I.n1 ≤ q * p) := l2
  have L3 : Hid (∀ i, i < I.n1 → i / p + 1 ≤ q) := l3
  have HG : Hid (G3 I w0 W bC bt bA bs cc bp bb bcap bm mcap tx) := hG
  have HI : Hid (I.At w0) := hI
  have HSM : Hid I.Sm := hsm
  clear hG hI hsm hp hq l2 l3
  conv => arg 2; whnf
  conv => arg 4; dsimp only
  by_cases h0 : q = 0
  · subst h0
    go_upto_if 172 with fail
    rename_i Kn hKn
    have HKN : Hid (∀ a w, Code.wp Ybad.prog rest39 (bodyPost Ybad.prog Ybad.f3 (lawPost w0)) a w → Kn a w) := hKn
    clear hKn
    go_wp2
    have hz : I.n1 = 0 := by have h5 := L2.out; omega
    refine HKN.out _ _ (s39 I HSM.out w0 W HI.out bC bt bA bs cc bp bb bcap bm mcap tx HG.out p 1 hp1 hp2 (Nat.le_refl _) (by omega) (by omega) (fun i hi => by omega))
  · have e0 : ¬ (q : Int) = 0 := by omega
    go_upto_if 172 with fail
    rename_i Kn hKn
    have HKN : Hid (∀ a w, Code.wp Ybad.prog rest39 (bodyPost Ybad.prog Ybad.f3 (lawPost w0)) a w → Kn a w) := hKn
    clear hKn
    go_wp2
    try rw [eq]
    refine HKN.out _ _ (s39 I HSM.out w0 W HI.out bC bt bA bs cc bp bb bcap bm mcap tx HG.out p q hp1 hp2 (by omega) l1 L2.out L3.out)
end Go.Proofs.YbulkdhcgDoor
