/-
  The law from region 9 on: the actors' rows and the tree are made.
-/
import Derived.Test.YbulkdhcgDoorLawS14
namespace Go.Proofs.YbulkdhcgDoor
open Go.RowKit

theorem info46 : (Ybad.prog.info? 46).map (fun i => (i.zero, i.size, i.bytes)) = some (some (.slice none 0 0), 1, 24) := by kernel_rfl
theorem info60 : (Ybad.prog.info? 60).map (fun i => (i.zero, i.size, i.bytes)) = some (some (.agg #[.int .u64 0, .slice none 0 0, .pointer none, .slice none 0 0, .int .i64 0, .int .u32 0, .bool false, .slice none 0 0, .slice none 0 0]), 9, 128) := by kernel_rfl
noncomputable def rest12 : Code := (Ybad.f3.body.bind (restFrom 12)).getD .skip
set_option maxRecDepth 100000 in
set_option maxHeartbeats 8000000 in
theorem s12 (I : Inp) (hsm : I.Sm) (w0 : World) (hI : I.At w0)
    {v6 v7 v8 v9 v10 v11 v13 v14 v15 v17 v18 v19 v20 v21 v22 v23 v24 v25 v26 v27 v28 v29 v30 v31 v32 v33 v34 v35 v36 v37 v38 v39 v40 v41 v42 v43 v44 v45 v46 v47 v48 v49 v50 v51 v52 v53 v54 v55 v56 v57 v58 v59 v60 v61 v62 v63 v64 v65 v66 v67 v68 v69 v70 v71 v72 v73 v74 v75 v76 v77 v78 v79 v80 v81 v82 v83 v84 v85 v86 v87 v88 v89 v90 v91 v92 v93 v94 v95 v96 v97 v98 v99 v100 v101 v102 v103 v104 v105 v106 v107 v108 v109 v110 v111 v112 v113 v114 v115 v116 v117 v118 v119 v120 v121 v122 v123 v124 v125 v126 v127 v128 v129 v130 v131 v132 v133 v134 v135 v136 v137 v138 v139 v140 v141 v142 v143 v144 v145 v146 v147 v148 v149 v150 v151 v152 v153 v154 v155 v156 v157 v158 v159 v160 v161 v162 v163 v164 v165 v166 v167 v168 v169 v170 v171 v172 v173 v174 v175 v176 v177 v178 v179 v180 v181 v182 v183 v184 v185 v186 v187 v188 v189 v190 v191 v192 v193 v194 v195 v196 v197 v198 v199 v200 v201 v202 v203 v204 v205 v206 v207 v208 v209 v210 v211 v212 v213 v214 v215 v216 v217 v218 v219 v220 v221 v222 v223 v224 v225 v226 v227 v228 v229 v230 v231 v232 v233 v234 v235 v236 v237 v238 v239 v240 v241 v242 v243 v244 v245 v246 v247 v248 v249 v250 v251 v252 v253 v254 v255 v256 v257 v258 v259 v260 v261 v262 v263 v264 v265 v266 v267 v268 v269 v270 v271 v272 v273 v274 v275 v276 v277 v278 v279 v280 v281 v282 v283 v284 v285 v286 v287 v288 v289 v290 v291 v292 v293 v294 v295 v296 v297 v298 v299 v300 v301 v302 v303 v304 v305 v306 v307 v308 v309 v310 v311 v312 v313 v314 v315 v316 v317 v318 v319 v320 v321 v322 v323 v324 v325 v326 v327 v328 v329 v330 v331 v332 v333 v334 v335 v336 v337 v338 v339 v340 v341 v342 v343 v344 v345 v346 v347 v348 v349 v350 v351 v352 v353 v354 v355 v356 v357 v358 v359 v360 v361 v362 v363 v364 v365 v366 v367 v368 v369 v370 v371 v372 v373 v374 v375 v376 v377 v378 v379 v380 v381 v382 v383 v384 v385 v386 v387 v388 v389 v390 v391 v392 v393 v394 v395 v396 v397 v398 v399 v400 v401 v402 v403 v404 v405 v406 v407 v408 v409 v410 v411 v412 v413 v414 v415 v416 v417 v418 v419 v420 v421 v422 v423 v424 v425 v426 v427 v428 v429 v430 v431 v432 v433 v434 v435 v436 v437 v438 v439 v440 v441 v442 v443 v444 v445 v446 v447 v448 v449 v450 v451 v452 v453 v454 v455 v456 v457 v458 v459 v460 v461 v462 v463 v464 v465 v466 : Value} :
    Code.wp Ybad.prog rest12 (bodyPost Ybad.prog Ybad.f3 (lawPost w0)) ⟨#[.slice I.a0 I.n0 I.k0, .slice I.a1 I.n1 I.k1, .int .u8 (I.per : Nat), .int .u64 (I.lv : Nat), .slice I.a4 I.n4 I.k4, .slice I.a5 I.n5 I.k5, v6, v7, v8, v9, v10, v11, .bool false, v13, v14, v15, .int .i64 (I.nA : Nat), v17, v18, v19, v20, v21, v22, v23, v24, v25, v26, v27, v28, v29, v30, v31, v32, v33, v34, v35, v36, v37, v38, v39, v40, v41, v42, v43, v44, v45, v46, v47, v48, v49, v50, v51, v52, v53, v54, v55, v56, v57, v58, v59, v60, v61, v62, v63, v64, v65, v66, v67, v68, v69, v70, v71, v72, v73, v74, v75, v76, v77, v78, v79, v80, v81, v82, v83, v84, v85, v86, v87, v88, v89, v90, v91, v92, v93, v94, v95, v96, v97, v98, v99, v100, v101, v102, v103, v104, v105, v106, v107, v108, v109, v110, v111, v112, v113, v114, v115, v116, v117, v118, v119, v120, v121, v122, v123, v124, v125, v126, v127, v128, v129, v130, v131, v132, v133, v134, v135, v136, v137, v138, v139, v140, v141, v142, v143, v144, v145, v146, v147, v148, v149, v150, v151, v152, v153, v154, v155, v156, v157, v158, v159, v160, v161, v162, v163, v164, v165, v166, v167, v168, v169, v170, v171, v172, v173, v174, v175, v176, v177, v178, v179, v180, v181, v182, v183, v184, v185, v186, v187, v188, v189, v190, v191, v192, v193, v194, v195, v196, v197, v198, v199, v200, v201, v202, v203, v204, v205, v206, v207, v208, v209, v210, v211, v212, v213, v214, v215, v216, v217, v218, v219, v220, v221, v222, v223, v224, v225, v226, v227, v228, v229, v230, v231, v232, v233, v234, v235, v236, v237, v238, v239, v240, v241, v242, v243, v244, v245, v246, v247, v248, v249, v250, v251, v252, v253, v254, v255, v256, v257, v258, v259, v260, v261, v262, v263, v264, v265, v266, v267, v268, v269, v270, v271, v272, v273, v274, v275, v276, v277, v278, v279, v280, v281, v282, v283, v284, v285, v286, v287, v288, v289, v290, v291, v292, v293, v294, v295, v296, v297, v298, v299, v300, v301, v302, v303, v304, v305, v306, v307, v308, v309, v310, v311, v312, v313, v314, v315, v316, v317, v318, v319, v320, v321, v322, v323, v324, v325, v326, v327, v328, v329, v330, v331, v332, v333, v334, v335, v336, v337, v338, v339, v340, v341, v342, v343, v344, v345, v346, v347, v348, v349, v350, v351, v352, v353, v354, v355, v356, v357, v358, v359, v360, v361, v362, v363, v364, v365, v366, v367, v368, v369, v370, v371, v372, v373, v374, v375, v376, v377, v378, v379, v380, v381, v382, v383, v384, v385, v386, v387, v388, v389, v390, v391, v392, v393, v394, v395, v396, v397, v398, v399, v400, v401, v402, v403, v404, v405, v406, v407, v408, v409, v410, v411, v412, v413, v414, v415, v416, v417, v418, v419, v420, v421, v422, v423, v424, v425, v426, v427, v428, v429, v430, v431, v432, v433, v434, v435, v436, v437, v438, v439, v440, v441, v442, v443, v444, v445, v446, v447, v448, v449, v450, v451, v452, v453, v454, v455, v456, v457, v458, v459, v460, v461, v462, v463, v464, v465, v466], []⟩ w0 := by
  have HI : Hid (I.At w0) := hI
  have HSM : Hid I.Sm := hsm
  have hnA : I.nA ≤ 64 := Inp.nA_le hsm
  obtain ⟨Z1, hz1, hz2, hmk1⟩ := make_run Ybad.underlying28 info46 (by rfl) I.nA (by omega) (by omega)
  obtain ⟨Z2, hz3, hz4, hmk2⟩ := make_run Ybad.underlying30 info60 (by rfl) I.nA (by omega) (by omega)
  have HA : Hid (∀ V, V = ((w0.alloc (.cells Z1 46)).alloc (.cells Z2 60)).alloc (.cells #[.slice none 0 0, .slice none 0 0, .slice none 0 0, .slice none 0 0, .slice none 0 0, .slice none 0 0, .slice none 0 0, .int .u32 0, .int .i32 0, .int .i64 0, .int .i64 0, .int .i64 0, .slice (some ⟨w0.heap.size + 1, 0, none⟩) I.nA I.nA, .pointer none, .pointer none] 45) → A3 I w0 w0.heap.size (w0.heap.size + 1 + 1) (w0.heap.size + 1) 0 (fun _ => 0) (fun _ => 0) (fun _ => 0) (fun _ => 0) (fun _ => 0) (fun _ => 0) (fun _ => 0) (fun _ => ⟨0, fun _ => 0, fun _ => false, 0, fun _ => 0, fun _ => 0⟩) V) := by
    intro V hV
    have s1 : (w0.alloc (.cells Z1 46)).heap.size = w0.heap.size + 1 := World.size_alloc _ _
    have s2 : ((w0.alloc (.cells Z1 46)).alloc (.cells Z2 60)).heap.size = w0.heap.size + 1 + 1 := by rw [World.size_alloc, s1]
    have n3 : V.heap[w0.heap.size + 1 + 1]? = some (.cells #[.slice none 0 0, .slice none 0 0, .slice none 0 0, .slice none 0 0, .slice none 0 0, .slice none 0 0, .slice none 0 0, .int .u32 0, .int .i32 0, .int .i64 0, .int .i64 0, .int .i64 0, .slice (some ⟨w0.heap.size + 1, 0, none⟩) I.nA I.nA, .pointer none, .pointer none] 45) := by rw [hV, ← s2]; exact World.alloc_heap_new _ _
    have n2 : V.heap[w0.heap.size + 1]? = some (.cells Z2 60) := by
      rw [hV, Below.heap_alloc _ _ _ (by rw [s2]; omega), ← s1]; exact World.alloc_heap_new _ _
    have n1 : V.heap[w0.heap.size]? = some (.cells Z1 46) := by
      rw [hV, Below.heap_alloc _ _ _ (by rw [s2]; omega), Below.heap_alloc _ _ _ (by rw [s1]; omega)]; exact World.alloc_heap_new _ _
    have hx : XFr w0 V (fun _ => False) := by rw [hV]; exact (((XFr.refl w0 _).alloc _).alloc _).alloc _
    have ac : ∀ a k, a < I.nA → k < 9 → V.cell? ⟨w0.heap.size + 1, a * 9 + k, none⟩ = some ((#[.int .u64 0, .slice none 0 0, .pointer none, .slice none 0 0, .int .i64 0, .int .u32 0, .bool false, .slice none 0 0, .slice none 0 0] : Array Value)[k]!) := fun a k ha hk => by
      have hlt : a * 9 + k < I.nA * 9 := by
        have : (a + 1) * 9 ≤ I.nA * 9 := Nat.mul_le_mul_right _ ha
        omega
      rw [cell_blk n2, hz4 _ hlt, show (a * 9 + k) % 9 = k by omega]
      rfl
    refine ⟨fun a ha => absurd ha (Nat.not_lt_zero a), fun a _ ha => ?_, fun j => frozen_of n1, fun a ha => absurd ha (Nat.not_lt_zero a), n3, fun a ha => absurd ha (Nat.not_lt_zero a), fun a ha => absurd ha (Nat.not_lt_zero a), fun a ha => absurd ha (Nat.not_lt_zero a), fun a ha => absurd ha (Nat.not_lt_zero a), fun a ha => absurd ha (Nat.not_lt_zero a), fun a _ ha => ⟨ac a 2 ha (by omega), ac a 3 ha (by omega), ac a 4 ha (by omega), ac a 5 ha (by omega), ac a 6 ha (by omega)⟩, fun j => frozen_of n2, fun a ha => absurd ha (Nat.not_lt_zero a), by omega, by omega, Nat.le_refl _, xfr_below hx⟩
    rw [cell_blk n1, hz2 a (by omega), Nat.mod_one]; rfl
  clear hI hsm hz1 hz2 hz3 hz4
  conv => arg 2; whnf
  conv => arg 4; dsimp only
  go_upto_region 13 with fail
  rename_i Kn hKn
  have HKN : Hid (∀ a w, Code.wp Ybad.prog rest14 (bodyPost Ybad.prog Ybad.f3 (lawPost w0)) a w → Kn a w) := hKn
  clear hKn
  go_wp2
  exact HKN.out _ _ (s14 I HSM.out w0 _ HI.out w0.heap.size (w0.heap.size + 1 + 1) (w0.heap.size + 1) _ _ _ _ _ _ _ _ (HA.out _ rfl))
noncomputable def rest9 : Code := (Ybad.f3.body.bind (restFrom 9)).getD .skip
set_option maxRecDepth 100000 in
set_option maxHeartbeats 8000000 in
theorem s9 (I : Inp) (hsm : I.Sm) (w0 : World) (hI : I.At w0)
    {v6 v7 v8 v9 v10 v11 v13 v14 v15 v16 v17 v18 v19 v20 v21 v22 v23 v24 v25 v26 v27 v28 v29 v30 v31 v32 v33 v34 v35 v36 v37 v38 v39 v40 v41 v42 v43 v44 v45 v46 v47 v48 v49 v50 v51 v52 v53 v54 v55 v56 v57 v58 v59 v60 v61 v62 v63 v64 v65 v66 v67 v68 v69 v70 v71 v72 v73 v74 v75 v76 v77 v78 v79 v80 v81 v82 v83 v84 v85 v86 v87 v88 v89 v90 v91 v92 v93 v94 v95 v96 v97 v98 v99 v100 v101 v102 v103 v104 v105 v106 v107 v108 v109 v110 v111 v112 v113 v114 v115 v116 v117 v118 v119 v120 v121 v122 v123 v124 v125 v126 v127 v128 v129 v130 v131 v132 v133 v134 v135 v136 v137 v138 v139 v140 v141 v142 v143 v144 v145 v146 v147 v148 v149 v150 v151 v152 v153 v154 v155 v156 v157 v158 v159 v160 v161 v162 v163 v164 v165 v166 v167 v168 v169 v170 v171 v172 v173 v174 v175 v176 v177 v178 v179 v180 v181 v182 v183 v184 v185 v186 v187 v188 v189 v190 v191 v192 v193 v194 v195 v196 v197 v198 v199 v200 v201 v202 v203 v204 v205 v206 v207 v208 v209 v210 v211 v212 v213 v214 v215 v216 v217 v218 v219 v220 v221 v222 v223 v224 v225 v226 v227 v228 v229 v230 v231 v232 v233 v234 v235 v236 v237 v238 v239 v240 v241 v242 v243 v244 v245 v246 v247 v248 v249 v250 v251 v252 v253 v254 v255 v256 v257 v258 v259 v260 v261 v262 v263 v264 v265 v266 v267 v268 v269 v270 v271 v272 v273 v274 v275 v276 v277 v278 v279 v280 v281 v282 v283 v284 v285 v286 v287 v288 v289 v290 v291 v292 v293 v294 v295 v296 v297 v298 v299 v300 v301 v302 v303 v304 v305 v306 v307 v308 v309 v310 v311 v312 v313 v314 v315 v316 v317 v318 v319 v320 v321 v322 v323 v324 v325 v326 v327 v328 v329 v330 v331 v332 v333 v334 v335 v336 v337 v338 v339 v340 v341 v342 v343 v344 v345 v346 v347 v348 v349 v350 v351 v352 v353 v354 v355 v356 v357 v358 v359 v360 v361 v362 v363 v364 v365 v366 v367 v368 v369 v370 v371 v372 v373 v374 v375 v376 v377 v378 v379 v380 v381 v382 v383 v384 v385 v386 v387 v388 v389 v390 v391 v392 v393 v394 v395 v396 v397 v398 v399 v400 v401 v402 v403 v404 v405 v406 v407 v408 v409 v410 v411 v412 v413 v414 v415 v416 v417 v418 v419 v420 v421 v422 v423 v424 v425 v426 v427 v428 v429 v430 v431 v432 v433 v434 v435 v436 v437 v438 v439 v440 v441 v442 v443 v444 v445 v446 v447 v448 v449 v450 v451 v452 v453 v454 v455 v456 v457 v458 v459 v460 v461 v462 v463 v464 v465 v466 : Value} :
    Code.wp Ybad.prog rest9 (bodyPost Ybad.prog Ybad.f3 (lawPost w0)) ⟨#[.slice I.a0 I.n0 I.k0, .slice I.a1 I.n1 I.k1, .int .u8 (I.per : Nat), .int .u64 (I.lv : Nat), .slice I.a4 I.n4 I.k4, .slice I.a5 I.n5 I.k5, v6, v7, v8, v9, v10, v11, .bool false, v13, v14, v15, v16, v17, v18, v19, v20, v21, v22, v23, v24, v25, v26, v27, v28, v29, v30, v31, v32, v33, v34, v35, v36, v37, v38, v39, v40, v41, v42, v43, v44, v45, v46, v47, v48, v49, v50, v51, v52, v53, v54, v55, v56, v57, v58, v59, v60, v61, v62, v63, v64, v65, v66, v67, v68, v69, v70, v71, v72, v73, v74, v75, v76, v77, v78, v79, v80, v81, v82, v83, v84, v85, v86, v87, v88, v89, v90, v91, v92, v93, v94, v95, v96, v97, v98, v99, v100, v101, v102, v103, v104, v105, v106, v107, v108, v109, v110, v111, v112, v113, v114, v115, v116, v117, v118, v119, v120, v121, v122, v123, v124, v125, v126, v127, v128, v129, v130, v131, v132, v133, v134, v135, v136, v137, v138, v139, v140, v141, v142, v143, v144, v145, v146, v147, v148, v149, v150, v151, v152, v153, v154, v155, v156, v157, v158, v159, v160, v161, v162, v163, v164, v165, v166, v167, v168, v169, v170, v171, v172, v173, v174, v175, v176, v177, v178, v179, v180, v181, v182, v183, v184, v185, v186, v187, v188, v189, v190, v191, v192, v193, v194, v195, v196, v197, v198, v199, v200, v201, v202, v203, v204, v205, v206, v207, v208, v209, v210, v211, v212, v213, v214, v215, v216, v217, v218, v219, v220, v221, v222, v223, v224, v225, v226, v227, v228, v229, v230, v231, v232, v233, v234, v235, v236, v237, v238, v239, v240, v241, v242, v243, v244, v245, v246, v247, v248, v249, v250, v251, v252, v253, v254, v255, v256, v257, v258, v259, v260, v261, v262, v263, v264, v265, v266, v267, v268, v269, v270, v271, v272, v273, v274, v275, v276, v277, v278, v279, v280, v281, v282, v283, v284, v285, v286, v287, v288, v289, v290, v291, v292, v293, v294, v295, v296, v297, v298, v299, v300, v301, v302, v303, v304, v305, v306, v307, v308, v309, v310, v311, v312, v313, v314, v315, v316, v317, v318, v319, v320, v321, v322, v323, v324, v325, v326, v327, v328, v329, v330, v331, v332, v333, v334, v335, v336, v337, v338, v339, v340, v341, v342, v343, v344, v345, v346, v347, v348, v349, v350, v351, v352, v353, v354, v355, v356, v357, v358, v359, v360, v361, v362, v363, v364, v365, v366, v367, v368, v369, v370, v371, v372, v373, v374, v375, v376, v377, v378, v379, v380, v381, v382, v383, v384, v385, v386, v387, v388, v389, v390, v391, v392, v393, v394, v395, v396, v397, v398, v399, v400, v401, v402, v403, v404, v405, v406, v407, v408, v409, v410, v411, v412, v413, v414, v415, v416, v417, v418, v419, v420, v421, v422, v423, v424, v425, v426, v427, v428, v429, v430, v431, v432, v433, v434, v435, v436, v437, v438, v439, v440, v441, v442, v443, v444, v445, v446, v447, v448, v449, v450, v451, v452, v453, v454, v455, v456, v457, v458, v459, v460, v461, v462, v463, v464, v465, v466], []⟩ w0 := by
  have HI : Hid (I.At w0) := hI
  have HSM : Hid I.Sm := hsm
  have hn0 := hsm.n0
  clear hI hsm
  conv => arg 2; whnf
  conv => arg 4; dsimp only
  by_cases h : I.n0 = 0
  · have HE : Hid (I.nA = 1) := by unfold Inp.nA; rw [if_pos h]; exact rfl
    have HS := fun (a : Nat) => a
    clear HS
    go_upto_if 89 with fail
    rename_i Kn hKn
    have HKN : Hid (∀ a w, Code.wp Ybad.prog rest12 (bodyPost Ybad.prog Ybad.f3 (lawPost w0)) a w → Kn a w) := hKn
    clear hKn
    go_wp2
    have e2 : (1 : Int) = ((I.nA : Nat) : Int) := by rw [HE.out]; rfl
    refine HKN.out _ _ ?_
    conv => arg 4; rw [e2]
    first | exact s12 I HSM.out w0 HI.out | (rw [h]; exact s12 I HSM.out w0 HI.out)
  · have HE : Hid (I.nA = I.n0) := by unfold Inp.nA; rw [if_neg h]; exact rfl
    have e1 : ¬ (I.n0 : Int) = 0 := by omega
    go_upto_if 89 with fail
    rename_i Kn hKn
    have HKN : Hid (∀ a w, Code.wp Ybad.prog rest12 (bodyPost Ybad.prog Ybad.f3 (lawPost w0)) a w → Kn a w) := hKn
    clear hKn
    go_wp2
    have e2 : ((I.n0 : Nat) : Int) = ((I.nA : Nat) : Int) := by rw [HE.out]
    refine HKN.out _ _ ?_
    conv => arg 4; rw [e2]
    exact s12 I HSM.out w0 HI.out
end Go.Proofs.YbulkdhcgDoor
