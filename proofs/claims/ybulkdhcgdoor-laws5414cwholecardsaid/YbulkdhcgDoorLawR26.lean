/-
  A round over the actors, regions 26 to 34.
-/
import Derived.Test.YbulkdhcgDoorLawP26
namespace Go.Proofs.YbulkdhcgDoor
open Go.RowKit

noncomputable def rest26 : Code := (Ybad.f3.body.bind (restFrom 26)).getD .skip
set_option maxRecDepth 100000 in
set_option maxHeartbeats 8000000 in
theorem r26 (I : Inp) (wo wx : World) (bC bA bt n g cap T : Nat) (h : P26 I wo bC bA bt n g cap T wx) (Q : Exit → Act → World → Prop)
    {v0 v1 v2 v3 v4 v5 v6 v7 v8 v9 v10 v11 v13 v14 v15 v16 v21 v22 v23 v24 v25 v26 v27 v28 v29 v30 v31 v32 v33 v34 v35 v36 v37 v38 v39 v40 v41 v42 v43 v44 v45 v46 v47 v48 v49 v50 v51 v52 v53 v54 v55 v56 v57 v58 v59 v60 v61 v62 v63 v64 v65 v66 v67 v68 v69 v70 v71 v72 v73 v74 v75 v76 v77 v78 v79 v80 v81 v82 v83 v84 v85 v86 v87 v88 v89 v90 v91 v92 v93 v94 v95 v96 v97 v98 v99 v100 v101 v102 v103 v104 v105 v106 v107 v108 v109 v110 v111 v112 v113 v114 v115 v116 v117 v118 v119 v120 v121 v122 v123 v124 v125 v126 v127 v128 v129 v130 v131 v132 v133 v134 v135 v136 v137 v138 v139 v140 v141 v142 v143 v144 v145 v146 v147 v148 v149 v150 v151 v152 v153 v154 v155 v156 v157 v158 v159 v160 v161 v162 v163 v164 v165 v166 v167 v168 v169 v170 v171 v172 v173 v174 v175 v176 v177 v178 v179 v180 v181 v182 v183 v184 v185 v186 v187 v188 v189 v190 v191 v192 v193 v194 v195 v196 v197 v198 v199 v200 v201 v202 v203 v204 v205 v206 v207 v208 v209 v210 v211 v212 v213 v214 v215 v216 v217 v218 v219 v220 v221 v222 v223 v224 v225 v226 v227 v228 v229 v230 v231 v232 v233 v234 v235 v236 v237 v238 v239 v240 v241 v242 v243 v244 v245 v246 v247 v248 v249 v250 v251 v252 v253 v254 v255 v256 v257 v258 v259 v260 v261 v262 v263 v264 v265 v266 v267 v268 v269 v270 v271 v272 v273 v274 v275 v276 v277 v278 v279 v280 v281 v282 v283 v284 v285 v286 v287 v288 v289 v290 v291 v292 v293 v294 v295 v296 v297 v298 v299 v300 v301 v302 v303 v304 v305 v306 v307 v308 v309 v310 v311 v312 v313 v314 v315 v316 v317 v318 v319 v320 v321 v322 v323 v324 v325 v326 v327 v328 v329 v330 v331 v332 v333 v334 v335 v336 v337 v338 v339 v340 v341 v342 v343 v344 v345 v346 v347 v348 v349 v350 v351 v352 v353 v354 v355 v356 v357 v358 v359 v360 v361 v362 v363 v364 v365 v366 v367 v368 v369 v370 v371 v372 v373 v374 v375 v376 v377 v378 v379 v380 v381 v382 v383 v384 v385 v386 v387 v388 v389 v390 v391 v392 v393 v394 v395 v396 v397 v398 v399 v400 v401 v402 v403 v404 v405 v406 v407 v408 v409 v410 v411 v412 v413 v414 v415 v416 v417 v418 v419 v420 v421 v422 v423 v424 v425 v426 v427 v428 v429 v430 v431 v432 v433 v434 v435 v436 v437 v438 v439 v440 v441 v442 v443 v444 v445 v446 v447 v448 v449 v450 v451 v452 v453 v454 v455 v456 v457 v458 v459 v460 v461 v462 v463 v464 v465 v466 : Value} (hQ : ∀ (u23 u25 u124 u125 u126 u127 u128 u129 u130 u131 u132 u133 u134 u135 u136 u137 u138 u139 u140 u141 u142 u143 u144 u145 u146 u147 u148 u149 u150 u151 u152 u153 u154 u155 u156 u157 u158 u159 : Value) (W' : World), (∃ xp xb xcap xm xmc t, NewT I wo bC bA n g cap xp xb xcap xm xmc t W') → Q .normal ⟨#[v0, v1, v2, v3, v4, v5, v6, v7, v8, v9, v10, v11, .bool false, v13, v14, v15, v16, .slice (some ⟨bC, 0, none⟩) I.nA I.nA, .pointer (some ⟨bt, 0, none⟩), .int .i64 (n : Nat), .slice (some ⟨g, 0, none⟩) T cap, v21, v22, u23, v24, u25, v26, v27, v28, v29, v30, v31, v32, v33, v34, v35, v36, v37, v38, v39, v40, v41, v42, v43, v44, v45, v46, v47, v48, v49, v50, v51, v52, v53, v54, v55, v56, v57, v58, v59, v60, v61, v62, v63, v64, v65, v66, v67, v68, v69, v70, v71, v72, v73, v74, v75, v76, v77, v78, v79, v80, v81, v82, v83, v84, v85, v86, v87, v88, v89, v90, v91, v92, v93, v94, v95, v96, v97, v98, v99, v100, v101, v102, v103, v104, v105, v106, v107, v108, v109, v110, v111, v112, v113, v114, v115, v116, v117, v118, v119, v120, v121, v122, v123, u124, u125, u126, u127, u128, u129, u130, u131, u132, u133, u134, u135, u136, u137, u138, u139, u140, u141, u142, u143, u144, u145, u146, u147, u148, u149, u150, u151, u152, u153, u154, u155, u156, u157, u158, u159, v160, v161, v162, v163, v164, v165, v166, v167, v168, v169, v170, v171, v172, v173, v174, v175, v176, v177, v178, v179, v180, v181, v182, v183, v184, v185, v186, v187, v188, v189, v190, v191, v192, v193, v194, v195, v196, v197, v198, v199, v200, v201, v202, v203, v204, v205, v206, v207, v208, v209, v210, v211, v212, v213, v214, v215, v216, v217, v218, v219, v220, v221, v222, v223, v224, v225, v226, v227, v228, v229, v230, v231, v232, v233, v234, v235, v236, v237, v238, v239, v240, v241, v242, v243, v244, v245, v246, v247, v248, v249, v250, v251, v252, v253, v254, v255, v256, v257, v258, v259, v260, v261, v262, v263, v264, v265, v266, v267, v268, v269, v270, v271, v272, v273, v274, v275, v276, v277, v278, v279, v280, v281, v282, v283, v284, v285, v286, v287, v288, v289, v290, v291, v292, v293, v294, v295, v296, v297, v298, v299, v300, v301, v302, v303, v304, v305, v306, v307, v308, v309, v310, v311, v312, v313, v314, v315, v316, v317, v318, v319, v320, v321, v322, v323, v324, v325, v326, v327, v328, v329, v330, v331, v332, v333, v334, v335, v336, v337, v338, v339, v340, v341, v342, v343, v344, v345, v346, v347, v348, v349, v350, v351, v352, v353, v354, v355, v356, v357, v358, v359, v360, v361, v362, v363, v364, v365, v366, v367, v368, v369, v370, v371, v372, v373, v374, v375, v376, v377, v378, v379, v380, v381, v382, v383, v384, v385, v386, v387, v388, v389, v390, v391, v392, v393, v394, v395, v396, v397, v398, v399, v400, v401, v402, v403, v404, v405, v406, v407, v408, v409, v410, v411, v412, v413, v414, v415, v416, v417, v418, v419, v420, v421, v422, v423, v424, v425, v426, v427, v428, v429, v430, v431, v432, v433, v434, v435, v436, v437, v438, v439, v440, v441, v442, v443, v444, v445, v446, v447, v448, v449, v450, v451, v452, v453, v454, v455, v456, v457, v458, v459, v460, v461, v462, v463, v464, v465, v466], []⟩ W') :
    Code.wp Ybad.prog rest26 Q ⟨#[v0, v1, v2, v3, v4, v5, v6, v7, v8, v9, v10, v11, .bool false, v13, v14, v15, v16, .slice (some ⟨bC, 0, none⟩) I.nA I.nA, .pointer (some ⟨bt, 0, none⟩), .int .i64 (n : Nat), .slice (some ⟨g, 0, none⟩) T cap, v21, v22, v23, v24, v25, v26, v27, v28, v29, v30, v31, v32, v33, v34, v35, v36, v37, v38, v39, v40, v41, v42, v43, v44, v45, v46, v47, v48, v49, v50, v51, v52, v53, v54, v55, v56, v57, v58, v59, v60, v61, v62, v63, v64, v65, v66, v67, v68, v69, v70, v71, v72, v73, v74, v75, v76, v77, v78, v79, v80, v81, v82, v83, v84, v85, v86, v87, v88, v89, v90, v91, v92, v93, v94, v95, v96, v97, v98, v99, v100, v101, v102, v103, v104, v105, v106, v107, v108, v109, v110, v111, v112, v113, v114, v115, v116, v117, v118, v119, v120, v121, v122, v123, v124, v125, v126, v127, v128, v129, v130, v131, v132, v133, v134, v135, v136, v137, v138, v139, v140, v141, v142, v143, v144, v145, v146, v147, v148, v149, v150, v151, v152, v153, v154, v155, v156, v157, v158, v159, v160, v161, v162, v163, v164, v165, v166, v167, v168, v169, v170, v171, v172, v173, v174, v175, v176, v177, v178, v179, v180, v181, v182, v183, v184, v185, v186, v187, v188, v189, v190, v191, v192, v193, v194, v195, v196, v197, v198, v199, v200, v201, v202, v203, v204, v205, v206, v207, v208, v209, v210, v211, v212, v213, v214, v215, v216, v217, v218, v219, v220, v221, v222, v223, v224, v225, v226, v227, v228, v229, v230, v231, v232, v233, v234, v235, v236, v237, v238, v239, v240, v241, v242, v243, v244, v245, v246, v247, v248, v249, v250, v251, v252, v253, v254, v255, v256, v257, v258, v259, v260, v261, v262, v263, v264, v265, v266, v267, v268, v269, v270, v271, v272, v273, v274, v275, v276, v277, v278, v279, v280, v281, v282, v283, v284, v285, v286, v287, v288, v289, v290, v291, v292, v293, v294, v295, v296, v297, v298, v299, v300, v301, v302, v303, v304, v305, v306, v307, v308, v309, v310, v311, v312, v313, v314, v315, v316, v317, v318, v319, v320, v321, v322, v323, v324, v325, v326, v327, v328, v329, v330, v331, v332, v333, v334, v335, v336, v337, v338, v339, v340, v341, v342, v343, v344, v345, v346, v347, v348, v349, v350, v351, v352, v353, v354, v355, v356, v357, v358, v359, v360, v361, v362, v363, v364, v365, v366, v367, v368, v369, v370, v371, v372, v373, v374, v375, v376, v377, v378, v379, v380, v381, v382, v383, v384, v385, v386, v387, v388, v389, v390, v391, v392, v393, v394, v395, v396, v397, v398, v399, v400, v401, v402, v403, v404, v405, v406, v407, v408, v409, v410, v411, v412, v413, v414, v415, v416, v417, v418, v419, v420, v421, v422, v423, v424, v425, v426, v427, v428, v429, v430, v431, v432, v433, v434, v435, v436, v437, v438, v439, v440, v441, v442, v443, v444, v445, v446, v447, v448, v449, v450, v451, v452, v453, v454, v455, v456, v457, v458, v459, v460, v461, v462, v463, v464, v465, v466], []⟩ wx := by
  have HQ : Hid (∀ (u23 u25 u124 u125 u126 u127 u128 u129 u130 u131 u132 u133 u134 u135 u136 u137 u138 u139 u140 u141 u142 u143 u144 u145 u146 u147 u148 u149 u150 u151 u152 u153 u154 u155 u156 u157 u158 u159 : Value) (W' : World), (∃ xp xb xcap xm xmc t, NewT I wo bC bA n g cap xp xb xcap xm xmc t W') → Q .normal ⟨#[v0, v1, v2, v3, v4, v5, v6, v7, v8, v9, v10, v11, .bool false, v13, v14, v15, v16, .slice (some ⟨bC, 0, none⟩) I.nA I.nA, .pointer (some ⟨bt, 0, none⟩), .int .i64 (n : Nat), .slice (some ⟨g, 0, none⟩) T cap, v21, v22, u23, v24, u25, v26, v27, v28, v29, v30, v31, v32, v33, v34, v35, v36, v37, v38, v39, v40, v41, v42, v43, v44, v45, v46, v47, v48, v49, v50, v51, v52, v53, v54, v55, v56, v57, v58, v59, v60, v61, v62, v63, v64, v65, v66, v67, v68, v69, v70, v71, v72, v73, v74, v75, v76, v77, v78, v79, v80, v81, v82, v83, v84, v85, v86, v87, v88, v89, v90, v91, v92, v93, v94, v95, v96, v97, v98, v99, v100, v101, v102, v103, v104, v105, v106, v107, v108, v109, v110, v111, v112, v113, v114, v115, v116, v117, v118, v119, v120, v121, v122, v123, u124, u125, u126, u127, u128, u129, u130, u131, u132, u133, u134, u135, u136, u137, u138, u139, u140, u141, u142, u143, u144, u145, u146, u147, u148, u149, u150, u151, u152, u153, u154, u155, u156, u157, u158, u159, v160, v161, v162, v163, v164, v165, v166, v167, v168, v169, v170, v171, v172, v173, v174, v175, v176, v177, v178, v179, v180, v181, v182, v183, v184, v185, v186, v187, v188, v189, v190, v191, v192, v193, v194, v195, v196, v197, v198, v199, v200, v201, v202, v203, v204, v205, v206, v207, v208, v209, v210, v211, v212, v213, v214, v215, v216, v217, v218, v219, v220, v221, v222, v223, v224, v225, v226, v227, v228, v229, v230, v231, v232, v233, v234, v235, v236, v237, v238, v239, v240, v241, v242, v243, v244, v245, v246, v247, v248, v249, v250, v251, v252, v253, v254, v255, v256, v257, v258, v259, v260, v261, v262, v263, v264, v265, v266, v267, v268, v269, v270, v271, v272, v273, v274, v275, v276, v277, v278, v279, v280, v281, v282, v283, v284, v285, v286, v287, v288, v289, v290, v291, v292, v293, v294, v295, v296, v297, v298, v299, v300, v301, v302, v303, v304, v305, v306, v307, v308, v309, v310, v311, v312, v313, v314, v315, v316, v317, v318, v319, v320, v321, v322, v323, v324, v325, v326, v327, v328, v329, v330, v331, v332, v333, v334, v335, v336, v337, v338, v339, v340, v341, v342, v343, v344, v345, v346, v347, v348, v349, v350, v351, v352, v353, v354, v355, v356, v357, v358, v359, v360, v361, v362, v363, v364, v365, v366, v367, v368, v369, v370, v371, v372, v373, v374, v375, v376, v377, v378, v379, v380, v381, v382, v383, v384, v385, v386, v387, v388, v389, v390, v391, v392, v393, v394, v395, v396, v397, v398, v399, v400, v401, v402, v403, v404, v405, v406, v407, v408, v409, v410, v411, v412, v413, v414, v415, v416, v417, v418, v419, v420, v421, v422, v423, v424, v425, v426, v427, v428, v429, v430, v431, v432, v433, v434, v435, v436, v437, v438, v439, v440, v441, v442, v443, v444, v445, v446, v447, v448, v449, v450, v451, v452, v453, v454, v455, v456, v457, v458, v459, v460, v461, v462, v463, v464, v465, v466], []⟩ W') := hQ
  have H : Hid (P26 I wo bC bA bt n g cap T wx) := h
  have hT4 := h.T4
  have hT1 : 1 ≤ T := by rw [h.hT]; exact I.tot_pos n
  have hn := h.n1
  have hnn : n < I.nA := h.n1
  obtain ⟨K, hK⟩ : ∃ K, K = 4 * T := ⟨_, rfl⟩
  have eK : 4 * (T : Int) = (K : Int) := by omega
  have hK2 : K ≤ 16384 := by omega
  have HK : Hid (K = 4 * T) := hK
  obtain ⟨i5, hi5, hz1, hz2, hz3⟩ := info_parts info5
  have HI5 : Hid (Ybad.prog.info? 5 = some i5) := hi5
  have HZ2 : Hid (i5.size = 1) := hz2
  obtain ⟨Z, hZ, hmk⟩ : ∃ Z : Array Value, Z.size = K ∧ ∀ w : World, (Instr.makeSlice 27 (.int .i64 0) (.int .i64 (K : Int))).run Ybad.prog w = .ok (.slice (some ⟨w.heap.size, 0, none⟩) 0 K) (w.alloc (.cells Z 5)) := by
    refine ⟨madeCells (Value.cells (.int .u8 0)) (K * 1), by rw [size_madeCells, Nat.mul_one], fun w => ?_⟩
    have := run_make (P := Ybad.prog) w 27 5 i5 (.int .u8 0) Ybad.underlying27 hi5 hz1 .i64 .i64 0 K (by omega) (by omega) (by rw [hz3]; omega) (by omega)
    rw [hz2] at this
    exact this
  have HBI : Hid (BI I wo.heap.size n (wx.heap.size + 1) wx.heap.size K 0 0 (((wx.setCell ⟨bC, n, none⟩ (.slice (some ⟨g, 0, none⟩) T cap)).alloc (.cells Z 5)).alloc (.cells #[.slice (some ⟨wx.heap.size, 0, none⟩) 0 K] 27)) (((wx.setCell ⟨bC, n, none⟩ (.slice (some ⟨g, 0, none⟩) T cap)).alloc (.cells Z 5)).alloc (.cells #[.slice (some ⟨wx.heap.size, 0, none⟩) 0 K] 27))) := h.start _ Z K hZ (by omega)
  have hbC : bC < wx.heap.size := by have := h.o1; have := h.o2; have := blk_lt h.tree; have := h.fr.size; omega
  have hbx : wx.heap[bC]? = wo.heap[bC]? := h.fr.blk bC (World.block_lt_of_cell? wo _ h.cn) (fun e => e)
  have c1 : wx.cell? ⟨bC, n, none⟩ = some (.slice none 0 0) := (World.cell?_of_block (w := wo) hbx).trans h.cn
  have f1 : wx.frozen? ⟨bC, n, none⟩ = false := (World.frozen?_of_block (w := wo) hbx).trans (h.cfrz n)
  have HCS : Hid ((I.cs n).length = T) := h.hT.symm
  have hg := (h.own.lt g rfl).2
  have hg1 := (h.own.lt g rfl).1
  have hCg : bC < wo.heap.size := World.block_lt_of_cell? wo _ h.cn
  have HCH : Hid (∀ wy m k, BI I wo.heap.size n (wx.heap.size + 1) wx.heap.size K k m (((wx.setCell ⟨bC, n, none⟩ (.slice (some ⟨g, 0, none⟩) T cap)).alloc (.cells Z 5)).alloc (.cells #[.slice (some ⟨wx.heap.size, 0, none⟩) 0 K] 27)) wy → ∀ j, j < T → wy.cell? ⟨g, j, none⟩ = some (.string (st ((I.cs n).getD j [])))) := fun wy m k hB j hj => by
    have s0 : (wx.setCell ⟨bC, n, none⟩ (.slice (some ⟨g, 0, none⟩) T cap)).heap.size = wx.heap.size := set_size _ _ _
    have s1 : ((wx.setCell ⟨bC, n, none⟩ (.slice (some ⟨g, 0, none⟩) T cap)).alloc (.cells Z 5)).heap.size = wx.heap.size + 1 := by rw [World.size_alloc, s0]
    have h5 : wy.heap[g]? = wx.heap[g]? := by
      rw [hB.fr.blk g (by rw [World.size_alloc, s1]; omega) (by omega), Below.heap_alloc _ _ _ (by rw [s1]; omega), Below.heap_alloc _ _ _ (by rw [s0]; omega)]
      exact Below.heap_setCell wx _ _ g (fun e => by have e2 : g = bC := e; omega)
    exact (World.cell?_of_block (w := wx) h5).trans (h.chr hj)
  clear h hQ hK hi5 hz1 hz2 hz3 hZ hbx hg1
  conv => arg 2; whnf
  conv => arg 4; dsimp only
  go_wp2
  go_loopw [134] (fun x wy => ∃ k m : Nat, x = .int .i64 k ∧ k ≤ T ∧ m ≤ 4 * k ∧ BI I wo.heap.size n (wx.heap.size + 1) wx.heap.size K k m (((wx.setCell ⟨bC, n, none⟩ (.slice (some ⟨g, 0, none⟩) T cap)).alloc (.cells Z 5)).alloc (.cells #[.slice (some ⟨wx.heap.size, 0, none⟩) 0 K] 27)) wy) (fun x _ => T - (intOf x).toNat)
  case atStart => exact ⟨0, 0, rfl, Nat.zero_le _, Nat.zero_le _, HBI.out⟩
  case round =>
    rename_i Kn hKn
    have HKN : Hid (∀ a w, Code.wp Ybad.prog rest33 Q a w → Kn a w) := hKn
    clear hKn HBI hmk c1 f1
    obtain ⟨k, m, rfl, hk, hm, hB⟩ := hrel
    obtain ⟨wq, rfl⟩ : ∃ wq, wq = wr := ⟨_, rfl⟩
    have HB : Hid (BI I wo.heap.size n (wx.heap.size + 1) wx.heap.size K k m (((wx.setCell ⟨bC, n, none⟩ (.slice (some ⟨g, 0, none⟩) T cap)).alloc (.cells Z 5)).alloc (.cells #[.slice (some ⟨wx.heap.size, 0, none⟩) 0 K] 27)) wq) := hB
    clear hB
    by_cases h2 : k < T
    · have e2 : (k : Int) < (T : Int) := by omega
      have d1 := HCH.out wq m k HB.out k h2
      have d2 := HB.out.box
      have d3 := HB.out.frz
      obtain ⟨cl, hcl⟩ : ∃ cl, cl = (I.cs n).getD k [] := ⟨_, rfl⟩
      have hcl4 : cl.length ≤ 4 := by rw [hcl]; exact I.cs_len _ _
      obtain ⟨s, hs⟩ : ∃ s, s = st cl := ⟨_, rfl⟩
      rw [← hcl, ← hs] at d1
      have HCL : Hid (cl = (I.cs n).getD k []) := hcl
      have HS : Hid (s = st cl) := hs
      have hsz : s.size = cl.length := by rw [hs]; exact st_size cl
      have hroom : m + cl.length ≤ K := by rw [HK.out]; omega
      have hK0 : 0 < K := by rw [HK.out]; omega
      clear hcl hs
      go_wp2_with (refine Lib.wpList_append_fits_string (P := Ybad.prog) _ (by rfl) (.tmp 138) (.tmp 139) 27 9 (by rfl) wo.heap.size 5 i5 Ybad.underlying27 Ybad.underlying9 HI5.out HZ2.out (some ⟨wx.heap.size, 0, none⟩) m K _ (by rfl) HB.out.own s (by rfl) hK0 (by rw [hsz]; exact hroom) ?_)
      intro w' hown hgrow
      have hown2 : w'.ownsRow wo.heap.size 5 1 (.slice (some ⟨wx.heap.size, 0, none⟩) (m + cl.length) K) (m + cl.length) (bcs ((I.cs n).take k).flatten ++ bcs ((I.cs n).getD k [])) := by
        rw [← HCL.out, ← strCells_st cl, ← HS.out, ← hsz]; rw [← hsz] at hown; exact hown
      have HP : Hid (BI I wo.heap.size n (wx.heap.size + 1) wx.heap.size K (k + 1) (m + cl.length) (((wx.setCell ⟨bC, n, none⟩ (.slice (some ⟨g, 0, none⟩) T cap)).alloc (.cells Z 5)).alloc (.cells #[.slice (some ⟨wx.heap.size, 0, none⟩) 0 K] 27)) (w'.setCell ⟨wx.heap.size + 1, 0, none⟩ (.slice (some ⟨wx.heap.size, 0, none⟩) (m + cl.length) K))) := HB.out.put (by rw [HCS.out]; exact h2) (by omega) hown2 hgrow
      have hb : w'.heap[wx.heap.size + 1]? = wq.heap[wx.heap.size + 1]? := hgrow.block _ (World.block_lt_of_cell? wq _ d2) (fun e => by have e2 : wx.heap.size + 1 = wx.heap.size := Option.some.inj e; omega)
      have d4 : w'.cell? ⟨wx.heap.size + 1, 0, none⟩ = some (.slice (some ⟨wx.heap.size, 0, none⟩) m K) := (World.cell?_of_block (w := wq) hb).trans d2
      have d5 : w'.frozen? ⟨wx.heap.size + 1, 0, none⟩ = false := (World.frozen?_of_block (w := wq) hb).trans d3
      clear hown hown2 hgrow hb HB d1 d2 d3
      go_wp2
      exact ⟨⟨k + 1, m + cl.length, by go_num, by omega, by omega, HP.out⟩, by simp [intOf]; go_num⟩
    · have e2 : ¬ (k : Int) < (T : Int) := by omega
      go_wp2
      have ek : k = T := by omega
      subst ek
      exact HKN.out _ _ (r33 I wo wq bC bA bt n g cap (wx.heap.size + 1) wx.heap.size m k (H.out.p33 HK.out HB.out) Q (fun u142 u143 u144 u145 u146 u147 u148 u149 u150 u151 u152 u153 u154 u155 u156 u157 u158 u159 W' hN => HQ.out _ _ _ _ _ _ _ _ _ _ _ _ _ _ _ _ _ _ _ _ _ _ _ _ _ _ _ _ _ _ _ _ _ _ _ _ _ _ W' (by obtain ⟨xm, xmc, t, h5⟩ := hN; exact ⟨_, _, _, xm, xmc, t, h5⟩)))
end Go.Proofs.YbulkdhcgDoor
