/-
  The law from region 39 on: the rows are made, the first push.
-/
import Derived.Test.YbulkdhcgDoorLawS44
namespace Go.Proofs.YbulkdhcgDoor
open Go.RowKit

noncomputable def rest39 : Code := (Ybad.f3.body.bind (restFrom 39)).getD .skip
set_option maxRecDepth 100000 in
set_option maxHeartbeats 8000000 in
theorem s39 (I : Inp) (hsm : I.Sm) (w0 W : World) (hI : I.At w0) (bC bt bA : Nat) (bs cc bp bb bcap bm mcap : Nat → Nat) (tx : Nat → Mk) (hG : G3 I w0 W bC bt bA bs cc bp bb bcap bm mcap tx) (p nL : Nat) (hp1 : 1 ≤ p) (hp2 : p ≤ 64) (hL1 : 1 ≤ nL) (hL2 : nL ≤ 1024) (hL3 : I.n1 ≤ nL * p) (hL4 : ∀ i, i < I.n1 → i / p + 1 ≤ nL)
    {v0 v2 v6 v7 v8 v9 v10 v11 v13 v14 v15 v19 v20 v21 v22 v23 v24 v25 v28 v29 v30 v31 v32 v33 v34 v35 v36 v37 v38 v39 v40 v41 v42 v43 v44 v45 v46 v47 v48 v49 v50 v51 v52 v53 v54 v55 v56 v57 v58 v59 v60 v61 v62 v63 v64 v65 v66 v67 v68 v69 v70 v71 v72 v73 v74 v75 v76 v77 v78 v79 v80 v81 v82 v83 v84 v85 v86 v87 v88 v89 v90 v91 v92 v93 v94 v95 v96 v97 v98 v99 v100 v101 v102 v103 v104 v105 v106 v107 v108 v109 v110 v111 v112 v113 v114 v115 v116 v117 v118 v119 v120 v121 v122 v123 v124 v125 v126 v127 v128 v129 v130 v131 v132 v133 v134 v135 v136 v137 v138 v139 v140 v141 v142 v143 v144 v145 v146 v147 v148 v149 v150 v151 v152 v153 v154 v155 v156 v157 v158 v159 v160 v161 v162 v163 v164 v165 v166 v167 v168 v169 v170 v171 v172 v173 v174 v175 v176 v177 v178 v179 v180 v181 v182 v183 v184 v185 v186 v187 v188 v189 v190 v191 v192 v193 v194 v195 v196 v197 v198 v199 v200 v201 v202 v203 v204 v205 v206 v207 v208 v209 v210 v211 v212 v213 v214 v215 v216 v217 v218 v219 v220 v221 v222 v223 v224 v225 v226 v227 v228 v229 v230 v231 v232 v233 v234 v235 v236 v237 v238 v239 v240 v241 v242 v243 v244 v245 v246 v247 v248 v249 v250 v251 v252 v253 v254 v255 v256 v257 v258 v259 v260 v261 v262 v263 v264 v265 v266 v267 v268 v269 v270 v271 v272 v273 v274 v275 v276 v277 v278 v279 v280 v281 v282 v283 v284 v285 v286 v287 v288 v289 v290 v291 v292 v293 v294 v295 v296 v297 v298 v299 v300 v301 v302 v303 v304 v305 v306 v307 v308 v309 v310 v311 v312 v313 v314 v315 v316 v317 v318 v319 v320 v321 v322 v323 v324 v325 v326 v327 v328 v329 v330 v331 v332 v333 v334 v335 v336 v337 v338 v339 v340 v341 v342 v343 v344 v345 v346 v347 v348 v349 v350 v351 v352 v353 v354 v355 v356 v357 v358 v359 v360 v361 v362 v363 v364 v365 v366 v367 v368 v369 v370 v371 v372 v373 v374 v375 v376 v377 v378 v379 v380 v381 v382 v383 v384 v385 v386 v387 v388 v389 v390 v391 v392 v393 v394 v395 v396 v397 v398 v399 v400 v401 v402 v403 v404 v405 v406 v407 v408 v409 v410 v411 v412 v413 v414 v415 v416 v417 v418 v419 v420 v421 v422 v423 v424 v425 v426 v427 v428 v429 v430 v431 v432 v433 v434 v435 v436 v437 v438 v439 v440 v441 v442 v443 v444 v445 v446 v447 v448 v449 v450 v451 v452 v453 v454 v455 v456 v457 v458 v459 v460 v461 v462 v463 v464 v465 v466 : Value} :
    Code.wp Ybad.prog rest39 (bodyPost Ybad.prog Ybad.f3 (lawPost w0)) ⟨#[v0, .slice I.a1 I.n1 I.k1, v2, .int .u64 (I.lv : Nat), .slice I.a4 I.n4 I.k4, .slice I.a5 I.n5 I.k5, v6, v7, v8, v9, v10, v11, .bool false, v13, v14, v15, .int .i64 (I.nA : Nat), .slice (some ⟨bC, 0, none⟩) I.nA I.nA, .pointer (some ⟨bt, 0, none⟩), v19, v20, v21, v22, v23, v24, v25, .int .i64 (p : Nat), .int .i64 (nL : Nat), v28, v29, v30, v31, v32, v33, v34, v35, v36, v37, v38, v39, v40, v41, v42, v43, v44, v45, v46, v47, v48, v49, v50, v51, v52, v53, v54, v55, v56, v57, v58, v59, v60, v61, v62, v63, v64, v65, v66, v67, v68, v69, v70, v71, v72, v73, v74, v75, v76, v77, v78, v79, v80, v81, v82, v83, v84, v85, v86, v87, v88, v89, v90, v91, v92, v93, v94, v95, v96, v97, v98, v99, v100, v101, v102, v103, v104, v105, v106, v107, v108, v109, v110, v111, v112, v113, v114, v115, v116, v117, v118, v119, v120, v121, v122, v123, v124, v125, v126, v127, v128, v129, v130, v131, v132, v133, v134, v135, v136, v137, v138, v139, v140, v141, v142, v143, v144, v145, v146, v147, v148, v149, v150, v151, v152, v153, v154, v155, v156, v157, v158, v159, v160, v161, v162, v163, v164, v165, v166, v167, v168, v169, v170, v171, v172, v173, v174, v175, v176, v177, v178, v179, v180, v181, v182, v183, v184, v185, v186, v187, v188, v189, v190, v191, v192, v193, v194, v195, v196, v197, v198, v199, v200, v201, v202, v203, v204, v205, v206, v207, v208, v209, v210, v211, v212, v213, v214, v215, v216, v217, v218, v219, v220, v221, v222, v223, v224, v225, v226, v227, v228, v229, v230, v231, v232, v233, v234, v235, v236, v237, v238, v239, v240, v241, v242, v243, v244, v245, v246, v247, v248, v249, v250, v251, v252, v253, v254, v255, v256, v257, v258, v259, v260, v261, v262, v263, v264, v265, v266, v267, v268, v269, v270, v271, v272, v273, v274, v275, v276, v277, v278, v279, v280, v281, v282, v283, v284, v285, v286, v287, v288, v289, v290, v291, v292, v293, v294, v295, v296, v297, v298, v299, v300, v301, v302, v303, v304, v305, v306, v307, v308, v309, v310, v311, v312, v313, v314, v315, v316, v317, v318, v319, v320, v321, v322, v323, v324, v325, v326, v327, v328, v329, v330, v331, v332, v333, v334, v335, v336, v337, v338, v339, v340, v341, v342, v343, v344, v345, v346, v347, v348, v349, v350, v351, v352, v353, v354, v355, v356, v357, v358, v359, v360, v361, v362, v363, v364, v365, v366, v367, v368, v369, v370, v371, v372, v373, v374, v375, v376, v377, v378, v379, v380, v381, v382, v383, v384, v385, v386, v387, v388, v389, v390, v391, v392, v393, v394, v395, v396, v397, v398, v399, v400, v401, v402, v403, v404, v405, v406, v407, v408, v409, v410, v411, v412, v413, v414, v415, v416, v417, v418, v419, v420, v421, v422, v423, v424, v425, v426, v427, v428, v429, v430, v431, v432, v433, v434, v435, v436, v437, v438, v439, v440, v441, v442, v443, v444, v445, v446, v447, v448, v449, v450, v451, v452, v453, v454, v455, v456, v457, v458, v459, v460, v461, v462, v463, v464, v465, v466], []⟩ W := by
  have HG : Hid (G3 I w0 W bC bt bA bs cc bp bb bcap bm mcap tx) := hG
  have HI : Hid (I.At w0) := hI
  have HSM : Hid I.Sm := hsm
  have HL3 : Hid (I.n1 ≤ nL * p) := hL3
  have HL4 : Hid (∀ i, i < I.n1 → i / p + 1 ≤ nL) := hL4
  have hn1 := hsm.n1
  have hnA : I.nA ≤ 64 := Inp.nA_le hsm
  have hnA1 : 1 ≤ I.nA := I.nA_pos
  obtain ⟨M, hM⟩ : ∃ M, M = nL + 1 := ⟨_, rfl⟩
  have eM : (nL : Int) + 1 = (M : Int) := by omega
  obtain ⟨ZL, hzl, hmkL⟩ := make_leaf M (by omega)
  obtain ⟨ZR, hz1, hz2, hmkR⟩ := make_run Ybad.underlying25 info37 (by rfl) I.n1 (by omega) (by omega)
  obtain ⟨V1, hV1⟩ : ∃ V1, V1 = W.alloc (.cells ZL 77) := ⟨_, rfl⟩
  obtain ⟨V2, hV2⟩ : ∃ V2, V2 = V1.alloc (.cells ZR 37) := ⟨_, rfl⟩
  obtain ⟨V3, hV3⟩ : ∃ V3, V3 = V2.alloc (.cells ZR 37) := ⟨_, rfl⟩
  obtain ⟨V4, hV4⟩ : ∃ V4, V4 = V3.alloc (.cells ZR 37) := ⟨_, rfl⟩
  have s1 : V1.heap.size = W.heap.size + 1 := by rw [hV1]; exact World.size_alloc _ _
  have s2 : V2.heap.size = W.heap.size + 1 + 1 := by rw [hV2, World.size_alloc, s1]
  have s3 : V3.heap.size = W.heap.size + 1 + 1 + 1 := by rw [hV3, World.size_alloc, s2]
  have s4 : V4.heap.size = W.heap.size + 4 := by rw [hV4, World.size_alloc, s3]
  have hbtW : bt < W.heap.size := blk_lt hG.tree
  have f4 : ∀ k, k < V3.heap.size → V4.heap[k]? = V3.heap[k]? := fun k hk => by rw [hV4]; exact Below.heap_alloc _ _ _ hk
  have f3 : ∀ k, k < V2.heap.size → V3.heap[k]? = V2.heap[k]? := fun k hk => by rw [hV3]; exact Below.heap_alloc _ _ _ hk
  have f2 : ∀ k, k < V1.heap.size → V2.heap[k]? = V1.heap[k]? := fun k hk => by rw [hV2]; exact Below.heap_alloc _ _ _ hk
  have f1 : ∀ k, k < W.heap.size → V1.heap[k]? = W.heap[k]? := fun k hk => by rw [hV1]; exact Below.heap_alloc _ _ _ hk
  have n1 : V4.heap[W.heap.size]? = some (.cells ZL 77) := by rw [f4 _ (by omega), f3 _ (by omega), f2 _ (by omega), hV1]; exact World.alloc_heap_new W _
  have n2 : V4.heap[W.heap.size + 1]? = some (.cells ZR 37) := by rw [f4 _ (by omega), f3 _ (by omega), ← s1, hV2]; exact World.alloc_heap_new V1 _
  have n3 : V4.heap[W.heap.size + 1 + 1]? = some (.cells ZR 37) := by rw [f4 _ (by omega), ← s2, hV3]; exact World.alloc_heap_new V2 _
  have n4 : V4.heap[W.heap.size + 1 + 1 + 1]? = some (.cells ZR 37) := by rw [← s3, hV4]; exact World.alloc_heap_new V3 _
  have nt : V4.heap[bt]? = W.heap[bt]? := by rw [f4 _ (by omega), f3 _ (by omega), f2 _ (by omega), f1 _ hbtW]
  have hXV : XFr W V4 (fun k => k = bt) := by rw [hV4, hV3, hV2, hV1]; exact ((((XFr.refl W _).alloc _).alloc _).alloc _).alloc _
  have hct : ∀ j, V4.cell? ⟨bt, j, none⟩ = W.cell? ⟨bt, j, none⟩ := fun j => World.cell?_of_block (w := W) nt
  have hft : ∀ j, V4.frozen? ⟨bt, j, none⟩ = W.frozen? ⟨bt, j, none⟩ := fun j => World.frozen?_of_block (w := W) nt
  have hpush := push_first V4 (W.heap.size + 4) bt (r18 (.int .u32 0) (.int .u32 0) (.int .u32 0)) (r18_len _ _ _) (r18_one 0 0 0) (by omega) (by omega) (by rw [hct 0, cell_blk hG.tree]; rfl) (by rw [hft 0]; exact frozen_of hG.tree)
  have rr : ∀ (f : Nat → Nat) (b : Nat), V4.heap[b]? = some (.cells ZR 37) → RR I.n1 0 f b V4 := fun f b hb => ⟨fun k hk => by rw [cell_blk hb, hz2 k (by omega), Nat.mod_one]; rfl, fun k => frozen_of hb, blk_lt hb⟩
  have ll : LL p nL 0 W.heap.size V4 := by
    have c0 : ∀ j, cn p 0 j = 0 := fun j => by unfold cn; omega
    refine ⟨fun j _ h2 => ?_, fun j _ h2 k hk => ?_, fun j _ h2 => ?_, fun j _ h2 => ?_, fun q => frozen_of n1, blk_lt n1⟩
    · rw [cell_blk n1, c0]; exact (hzl j (by omega)).2.2.1
    · rw [cell_blk n1, c0, if_neg (by omega)]; exact (hzl j (by omega)).1 k hk
    · rw [cell_blk n1]; exact (hzl j (by omega)).2.1
    · rw [cell_blk n1]; exact (hzl j (by omega)).2.2.2
  have hR5 : ∀ w', Push1Post V4 (W.heap.size + 4) bt (r18 (.int .u32 0) (.int .u32 0) (.int .u32 0)) w' → ∃ bc c0 g cap, R5 I p nL W (W.heap.size + 4) bt W.heap.size (W.heap.size + 1) (W.heap.size + 1 + 1) (W.heap.size + 1 + 1 + 1) bc c0 g cap 0 w' := fun w' hp => by
    obtain ⟨bc, c0, g, cap, q1, q2, q3, q4⟩ := hp
    have mv : ∀ k, k < V4.heap.size → k ≠ bt → w'.heap[k]? = V4.heap[k]? := fun k hk hn => q2.blk k hk hn
    refine ⟨bc, c0, g, cap, ?_, (rr _ _ n2).move (mv _ (by omega) (by omega)) q2.size, (rr _ _ n3).move (mv _ (by omega) (by omega)) q2.size, (rr _ _ n4).move (mv _ (by omega) (by omega)) q2.size, ll.move (mv _ (by omega) (by omega)) q2.size, hXV.trans q2 (fun k h => Or.inl h), fun j hj => (q3 j hj).trans (hct j), fun j => (q4 j).trans (hft j), hbtW, Nat.le_refl _, by omega, by omega, by omega, by omega⟩
    exact q1
  have HPUSH : Hid (Calls Ybad.prog 6 #[.pointer (some ⟨bt, 0, none⟩), .agg (r18 (.int .u32 0) (.int .u32 0) (.int .u32 0)).toArray] V4 fun e w' => (∃ v, e = .returned v) ∧ ∃ bc c0 g cap, R5 I p nL W (W.heap.size + 4) bt W.heap.size (W.heap.size + 1) (W.heap.size + 1 + 1) (W.heap.size + 1 + 1 + 1) bc c0 g cap 0 w') := hpush.mono (fun e w' h => ⟨h.1, hR5 w' h.2⟩)
  have HV4 : Hid (V4 = (((W.alloc (.cells ZL 77)).alloc (.cells ZR 37)).alloc (.cells ZR 37)).alloc (.cells ZR 37)) := by rw [hV4, hV3, hV2, hV1]; exact rfl
  have HM : Hid (M = nL + 1) := hM
  clear hM hG hI hsm hL3 hL4 hzl hz1 hz2 hV1 hV2 hV3 hV4 s1 s2 s3 s4 f1 f2 f3 f4 n1 n2 n3 n4 nt hXV hct hft hpush rr ll hR5
  conv => arg 2; whnf
  conv => arg 4; dsimp only
  go_upto_region 43 with fail
  rename_i Kn hKn
  have HKN : Hid (∀ a w, Code.wp Ybad.prog rest44 (bodyPost Ybad.prog Ybad.f3 (lawPost w0)) a w → Kn a w) := hKn
  clear hKn
  go_wp2_with fail
  rw [← HV4.out]
  refine Calls.mono HPUSH.out ?_
  rintro e w' ⟨⟨u, rfl⟩, bc, c0, g, cap, hR⟩
  go_wp2
  exact HKN.out _ _ (s44 I HSM.out w0 W HI.out bC bt bA bs cc bp bb bcap bm mcap tx HG.out p nL hp1 hp2 hL1 hL2 HL3.out HL4.out M HM.out (W.heap.size + 4) W.heap.size (W.heap.size + 1) (W.heap.size + 1 + 1) (W.heap.size + 1 + 1 + 1) bc c0 g cap w' hR)
end Go.Proofs.YbulkdhcgDoor
