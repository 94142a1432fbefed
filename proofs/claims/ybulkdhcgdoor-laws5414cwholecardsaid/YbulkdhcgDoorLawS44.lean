/-
  The law from region 44 on: the loop over the runs.
-/
import Derived.Test.YbulkdhcgDoorLawFin
namespace Go.Proofs.YbulkdhcgDoor
open Go.RowKit

noncomputable def rest44 : Code := (Ybad.f3.body.bind (restFrom 44)).getD .skip
set_option maxRecDepth 100000 in
set_option maxHeartbeats 8000000 in
theorem s44 (I : Inp) (hsm : I.Sm) (w0 W : World) (hI : I.At w0) (bC bt bA : Nat) (bs cc bp bb bcap bm mcap : Nat → Nat) (tx : Nat → Mk) (hG : G3 I w0 W bC bt bA bs cc bp bb bcap bm mcap tx) (p nL : Nat) (hp1 : 1 ≤ p) (hp2 : p ≤ 64) (hL1 : 1 ≤ nL) (hL2 : nL ≤ 1024) (hL3 : I.n1 ≤ nL * p) (hL4 : ∀ i, i < I.n1 → i / p + 1 ≤ nL) (M : Nat) (hM : M = nL + 1) (C bL bra brn brl bc c0 g cap : Nat) (V : World) (hR : R5 I p nL W C bt bL bra brn brl bc c0 g cap 0 V)
    {v0 v2 v6 v7 v8 v9 v10 v11 v13 v14 v15 v19 v20 v21 v22 v23 v24 v25 v32 v33 v34 v35 v36 v37 v38 v39 v40 v41 v42 v43 v44 v45 v46 v47 v48 v49 v50 v51 v52 v53 v54 v55 v56 v57 v58 v59 v60 v61 v62 v63 v64 v65 v66 v67 v68 v69 v70 v71 v72 v73 v74 v75 v76 v77 v78 v79 v80 v81 v82 v83 v84 v85 v86 v87 v88 v89 v90 v91 v92 v93 v94 v95 v96 v97 v98 v99 v100 v101 v102 v103 v104 v105 v106 v107 v108 v109 v110 v111 v112 v113 v114 v115 v116 v117 v118 v119 v120 v121 v122 v123 v124 v125 v126 v127 v128 v129 v130 v131 v132 v133 v134 v135 v136 v137 v138 v139 v140 v141 v142 v143 v144 v145 v146 v147 v148 v149 v150 v151 v152 v153 v154 v155 v156 v157 v158 v159 v160 v161 v162 v163 v164 v165 v166 v167 v168 v169 v170 v171 v172 v173 v174 v175 v176 v177 v178 v179 v180 v181 v182 v183 v184 v185 v186 v187 v188 v189 v190 v191 v192 v193 v194 v195 v196 v197 v198 v199 v200 v201 v202 v203 v204 v205 v206 v207 v208 v209 v210 v211 v212 v213 v214 v215 v216 v217 v218 v219 v220 v221 v222 v223 v224 v225 v226 v227 v228 v229 v230 v231 v232 v233 v234 v235 v236 v237 v238 v239 v240 v241 v242 v243 v244 v245 v246 v247 v248 v249 v250 v251 v252 v253 v254 v255 v256 v257 v258 v259 v260 v261 v262 v263 v264 v265 v266 v267 v268 v269 v270 v271 v272 v273 v274 v275 v276 v277 v278 v279 v280 v281 v282 v283 v284 v285 v286 v287 v288 v289 v290 v291 v292 v293 v294 v295 v296 v297 v298 v299 v300 v301 v302 v303 v304 v305 v306 v307 v308 v309 v310 v311 v312 v313 v314 v315 v316 v317 v318 v319 v320 v321 v322 v323 v324 v325 v326 v327 v328 v329 v330 v331 v332 v333 v334 v335 v336 v337 v338 v339 v340 v341 v342 v343 v344 v345 v346 v347 v348 v349 v350 v351 v352 v353 v354 v355 v356 v357 v358 v359 v360 v361 v362 v363 v364 v365 v366 v367 v368 v369 v370 v371 v372 v373 v374 v375 v376 v377 v378 v379 v380 v381 v382 v383 v384 v385 v386 v387 v388 v389 v390 v391 v392 v393 v394 v395 v396 v397 v398 v399 v400 v401 v402 v403 v404 v405 v406 v407 v408 v409 v410 v411 v412 v413 v414 v415 v416 v417 v418 v419 v420 v421 v422 v423 v424 v425 v426 v427 v428 v429 v430 v431 v432 v433 v434 v435 v436 v437 v438 v439 v440 v441 v442 v443 v444 v445 v446 v447 v448 v449 v450 v451 v452 v453 v454 v455 v456 v457 v458 v459 v460 v461 v462 v463 v464 v465 v466 : Value} :
    Code.wp Ybad.prog rest44 (bodyPost Ybad.prog Ybad.f3 (lawPost w0)) ⟨#[v0, .slice I.a1 I.n1 I.k1, v2, .int .u64 (I.lv : Nat), .slice I.a4 I.n4 I.k4, .slice I.a5 I.n5 I.k5, v6, v7, v8, v9, v10, v11, .bool false, v13, v14, v15, .int .i64 (I.nA : Nat), .slice (some ⟨bC, 0, none⟩) I.nA I.nA, .pointer (some ⟨bt, 0, none⟩), v19, v20, v21, v22, v23, v24, v25, .int .i64 (p : Nat), .int .i64 (nL : Nat), .slice (some ⟨bL, 0, none⟩) M M, .slice (some ⟨bra, 0, none⟩) I.n1 I.n1, .slice (some ⟨brn, 0, none⟩) I.n1 I.n1, .slice (some ⟨brl, 0, none⟩) I.n1 I.n1, v32, v33, v34, v35, v36, v37, v38, v39, v40, v41, v42, v43, v44, v45, v46, v47, v48, v49, v50, v51, v52, v53, v54, v55, v56, v57, v58, v59, v60, v61, v62, v63, v64, v65, v66, v67, v68, v69, v70, v71, v72, v73, v74, v75, v76, v77, v78, v79, v80, v81, v82, v83, v84, v85, v86, v87, v88, v89, v90, v91, v92, v93, v94, v95, v96, v97, v98, v99, v100, v101, v102, v103, v104, v105, v106, v107, v108, v109, v110, v111, v112, v113, v114, v115, v116, v117, v118, v119, v120, v121, v122, v123, v124, v125, v126, v127, v128, v129, v130, v131, v132, v133, v134, v135, v136, v137, v138, v139, v140, v141, v142, v143, v144, v145, v146, v147, v148, v149, v150, v151, v152, v153, v154, v155, v156, v157, v158, v159, v160, v161, v162, v163, v164, v165, v166, v167, v168, v169, v170, v171, v172, v173, v174, v175, v176, v177, v178, v179, v180, v181, v182, v183, v184, v185, v186, v187, v188, v189, v190, v191, v192, v193, v194, v195, v196, v197, v198, v199, v200, v201, v202, v203, v204, v205, v206, v207, v208, v209, v210, v211, v212, v213, v214, v215, v216, v217, v218, v219, v220, v221, v222, v223, v224, v225, v226, v227, v228, v229, v230, v231, v232, v233, v234, v235, v236, v237, v238, v239, v240, v241, v242, v243, v244, v245, v246, v247, v248, v249, v250, v251, v252, v253, v254, v255, v256, v257, v258, v259, v260, v261, v262, v263, v264, v265, v266, v267, v268, v269, v270, v271, v272, v273, v274, v275, v276, v277, v278, v279, v280, v281, v282, v283, v284, v285, v286, v287, v288, v289, v290, v291, v292, v293, v294, v295, v296, v297, v298, v299, v300, v301, v302, v303, v304, v305, v306, v307, v308, v309, v310, v311, v312, v313, v314, v315, v316, v317, v318, v319, v320, v321, v322, v323, v324, v325, v326, v327, v328, v329, v330, v331, v332, v333, v334, v335, v336, v337, v338, v339, v340, v341, v342, v343, v344, v345, v346, v347, v348, v349, v350, v351, v352, v353, v354, v355, v356, v357, v358, v359, v360, v361, v362, v363, v364, v365, v366, v367, v368, v369, v370, v371, v372, v373, v374, v375, v376, v377, v378, v379, v380, v381, v382, v383, v384, v385, v386, v387, v388, v389, v390, v391, v392, v393, v394, v395, v396, v397, v398, v399, v400, v401, v402, v403, v404, v405, v406, v407, v408, v409, v410, v411, v412, v413, v414, v415, v416, v417, v418, v419, v420, v421, v422, v423, v424, v425, v426, v427, v428, v429, v430, v431, v432, v433, v434, v435, v436, v437, v438, v439, v440, v441, v442, v443, v444, v445, v446, v447, v448, v449, v450, v451, v452, v453, v454, v455, v456, v457, v458, v459, v460, v461, v462, v463, v464, v465, v466], []⟩ V := by
  have HG : Hid (G3 I w0 W bC bt bA bs cc bp bb bcap bm mcap tx) := hG
  have HI : Hid (I.At w0) := hI
  have HSM : Hid I.Sm := hsm
  have HL3 : Hid (I.n1 ≤ nL * p) := hL3
  have HL4 : Hid (∀ i, i < I.n1 → i / p + 1 ≤ nL) := hL4
  have hn1 := hsm.n1
  have hnA : I.nA ≤ 64 := Inp.nA_le hsm
  have hnA1 : 1 ≤ I.nA := I.nA_pos
  have HM : Hid (M = nL + 1) := hM
  have HR0 : Hid (R5 I p nL W C bt bL bra brn brl bc c0 g cap 0 V) := hR
  have HOO : Hid (bt < W.heap.size ∧ W.heap.size ≤ bL ∧ bL < bra ∧ bra < brn ∧ brn < brl ∧ brl < C) := ⟨hR.o0, hR.o1, hR.o2, hR.o3, hR.o4, hR.o5⟩
  clear hG hI hsm hL3 hL4 hM hR
  conv => arg 2; whnf
  conv => arg 4; dsimp only
  go_wp2
  go_loopw [192] (fun x wr => ∃ i g cap : Nat, x = .int .i64 i ∧ i ≤ I.n1 ∧ R5 I p nL W C bt bL bra brn brl bc c0 g cap i wr) (fun x _ => I.n1 - (intOf x).toNat)
  case atStart => exact ⟨0, g, cap, rfl, Nat.zero_le _, HR0.out⟩
  case round =>
    rename_i Kn hKn
    have HKN : Hid (∀ a w, Code.wp Ybad.prog rest57 (bodyPost Ybad.prog Ybad.f3 (lawPost w0)) a w → Kn a w) := hKn
    clear hKn HR0
    obtain ⟨i, g, cap, rfl, hi, hR⟩ := hrel
    obtain ⟨wo, rfl⟩ : ∃ wo, wo = wr := ⟨_, rfl⟩
    have HR : Hid (R5 I p nL W C bt bL bra brn brl bc c0 g cap i wo) := hR
    have hbe : Below w0.heap.size w0 wo := HG.out.below.trans ⟨hR.fr.os, hR.fr.tape, hR.fr.output, hR.fr.size, fun k hk => hR.fr.blk k (Nat.lt_of_lt_of_le hk HG.out.below.size) (fun e => by have h5 := HG.out.lt; omega)⟩
    have HBE : Hid (Below w0.heap.size w0 wo) := hbe
    clear hR hbe
    by_cases h : i < I.n1
    · have e1 : (i : Int) < (I.n1 : Int) := by omega
      obtain ⟨b, o, ha1, c1, c2, c3, b1, b2, b3⟩ := (HI.out.below HBE.out).r i h
      obtain ⟨rA, hrA⟩ : ∃ rA, rA = I.rA i := ⟨_, rfl⟩
      obtain ⟨rN, hrN⟩ : ∃ rN, rN = I.rN i := ⟨_, rfl⟩
      obtain ⟨rL, hrL⟩ : ∃ rL, rL = I.rL i := ⟨_, rfl⟩
      obtain ⟨x, hx⟩ : ∃ x, x = I.ra i := ⟨_, rfl⟩
      obtain ⟨T, hT⟩ : ∃ T, T = I.tot x := ⟨_, rfl⟩
      obtain ⟨n, hn⟩ : ∃ n, n = I.rn i := ⟨_, rfl⟩
      obtain ⟨r, hr⟩ : ∃ r, r = I.rL i % (I.tot (I.ra i) - I.rn i) := ⟨_, rfl⟩
      obtain ⟨l, hl⟩ : ∃ l, l = I.rl i := ⟨_, rfl⟩
      have hxl : x < I.nA := by rw [hx]; exact I.ra_lt i
      have hT1 : T ≤ 4096 := by rw [hT]; exact Inp.tot_le HSM.out x
      have hnT : n < T := by rw [hn, hT, hx]; exact I.rn_lt i
      have hlr : l = 1 + r := by rw [hl, hr]; rfl
      have hrT : r < T - n := by rw [hr, hT, hn, hx]; exact Nat.mod_lt _ (by have h5 := I.rn_lt i; omega)
      have em : ((rA : Nat) : Int) % ((I.nA : Nat) : Int) = ((x : Nat) : Int) := by rw [hx, hrA]; exact (Int.natCast_emod _ _).symm
      have en : ((rN : Nat) : Int) % ((T : Nat) : Int) = ((n : Nat) : Int) := by rw [hn, hrN, hT, hx]; exact (Int.natCast_emod _ _).symm
      have er : ((rL : Nat) : Int) % (((T : Nat) : Int) - ((n : Nat) : Int)) = ((r : Nat) : Int) := by
        have h5 : ((T : Nat) : Int) - ((n : Nat) : Int) = ((T - n : Nat) : Int) := by omega
        rw [h5, hr, hrL, hT, hn, hx]; exact (Int.natCast_emod _ _).symm
      have el : 1 + ((r : Nat) : Int) = ((l : Nat) : Int) := by omega
      have HX : Hid (x = I.ra i) := hx
      have HNn : Hid (n = I.rn i) := hn
      have HLl : Hid (l = I.rl i) := hl
      rw [← hrA] at c1 b1
      rw [← hrN] at c2 b2
      rw [← hrL] at c3 b3
      have g1 : wo.cell? ⟨bC, x, none⟩ = some (.slice (some ⟨bs x, 0, none⟩) T (cc x)) := by rw [hT]; exact (HR.out.fr.cell x HG.out.lC.1 HG.out.lC.2).trans (HG.out.chars x hxl)
      have ca : wo.cell? ⟨bra, i, none⟩ = some (.int .u32 0) := by rw [HR.out.ra.cell i h, if_neg (by omega)]; rfl
      have cb : wo.cell? ⟨brn, i, none⟩ = some (.int .u32 0) := by rw [HR.out.rn.cell i h, if_neg (by omega)]; rfl
      have cl : wo.cell? ⟨brl, i, none⟩ = some (.int .u32 0) := by rw [HR.out.rl.cell i h, if_neg (by omega)]; rfl
      have fa := HR.out.ra.frz i
      have fb := HR.out.rn.frz i
      have fl := HR.out.rl.frz i
      obtain ⟨t, ht⟩ : ∃ t, t = i / p := ⟨_, rfl⟩
      obtain ⟨j, hj⟩ : ∃ j, j = t + 1 := ⟨_, rfl⟩
      obtain ⟨m, hm⟩ : ∃ m, m = i % p := ⟨_, rfl⟩
      have et : ((i : Nat) : Int) / ((p : Nat) : Int) = ((t : Nat) : Int) := by rw [ht]; exact (Int.natCast_ediv _ _).symm
      have ej : 1 + ((t : Nat) : Int) = ((j : Nat) : Int) := by omega
      have hjL : j ≤ nL := by rw [hj, ht]; exact HL4.out i h
      have hjM : j < M := by rw [HM.out]; omega
      have hm64 : m < 64 := by have h5 := Nat.mod_lt i (y := p) (by omega); omega
      have HJ : Hid (j = i / p + 1 ∧ m = i % p) := ⟨by rw [hj, ht], hm⟩
      have hpush : Calls Ybad.prog 6 #[.pointer (some ⟨bt, 0, none⟩), .agg (r18 (.int .u32 (x : Nat)) (.int .u32 (n : Nat)) (.int .u32 (l : Nat))).toArray] ((((wo.setCell ⟨bra, i, none⟩ (.int .u32 (x : Nat))).setCell ⟨brn, i, none⟩ (.int .u32 (n : Nat))).setCell ⟨brl, i, none⟩ (.int .u32 (l : Nat))).alloc (.cells #[.int .u8 (rA : Nat), .int .u16 (rN : Nat), .int .u16 (rL : Nat)] 71)) fun e w' => (∃ v, e = .returned v) ∧ (∃ g' cap', (w'.cell? ⟨bL, j * 261 + 65, none⟩ = some (.int .i32 (m : Nat)) ∧ (∃ u, w'.cell? ⟨bL, j * 261 + m, none⟩ = some u) ∧ ∀ q, w'.frozen? ⟨bL, q, none⟩ = false) ∧ R5 I p nL W C bt bL bra brn brl bc c0 g' cap' (i + 1) ((w'.drew.setCell ⟨bL, j * 261 + m, none⟩ (.int .u32 ((i : Int) + 1))).setCell ⟨bL, j * 261 + 65, none⟩ (.int .i32 ((m : Int) + 1)))) := by
        refine (push_next _ C bt bc c0 g cap (i + 1) (runL I i) _ (r18_len _ _ _) (r18_one _ _ _) (HR.out.push _ _ _ _) (by omega)).mono ?_
        rintro e w' ⟨he, g', cap', q1, q2⟩
        refine ⟨he, g', cap', ?_, ?_⟩
        · have h5 : LL p nL i bL w' := HR.out.lv.move (by
            have hS : ∀ (V : World) (b j : Nat) (u : Value) (k : Nat), k ≠ b → (V.setCell ⟨b, j, none⟩ u).heap[k]? = V.heap[k]? := fun V b j u k hk => Below.heap_setCell V ⟨b, j, none⟩ u k hk
            have h6 := HR.out.runs.ge
            obtain ⟨o0, o1, o2, o3, o4, o5⟩ := HOO.out
            have h7 := (HR.out.runs.own.lt g rfl).1
            rw [q2.blk bL (by rw [World.size_alloc, set_size, set_size, set_size]; have h8 := HR.out.lv.lt; omega) (by omega), Below.heap_alloc _ _ bL (by rw [set_size, set_size, set_size]; exact HR.out.lv.lt), hS _ _ _ _ _ (by omega), hS _ _ _ _ _ (by omega), hS _ _ _ _ _ (by omega)]) (by have h8 := q2.size; rw [World.size_alloc, set_size, set_size, set_size] at h8; omega)
          have h6 := h5.num j (by omega) hjL
          rw [HJ.out.1, cn_here hp1, ← HJ.out.1, ← HJ.out.2] at h6
          exact ⟨h6, ⟨_, h5.run j (by omega) hjL m hm64⟩, h5.frz⟩
        · have h5 := HR.out.step (w' := w'.drew) h hp1 hp2 (HL4.out i h) hx hn hl q1.drew q2.drew1
          rw [← HJ.out.1, ← HJ.out.2, show ((i + 1 : Nat) : Int) = (i : Int) + 1 by omega, show ((m + 1 : Nat) : Int) = (m : Int) + 1 by omega] at h5
          exact h5
      have HPUSH : Hid (Calls Ybad.prog 6 #[.pointer (some ⟨bt, 0, none⟩), .agg (r18 (.int .u32 (x : Nat)) (.int .u32 (n : Nat)) (.int .u32 (l : Nat))).toArray] ((((wo.setCell ⟨bra, i, none⟩ (.int .u32 (x : Nat))).setCell ⟨brn, i, none⟩ (.int .u32 (n : Nat))).setCell ⟨brl, i, none⟩ (.int .u32 (l : Nat))).alloc (.cells #[.int .u8 (rA : Nat), .int .u16 (rN : Nat), .int .u16 (rL : Nat)] 71)) fun e w' => (∃ v, e = .returned v) ∧ (∃ g' cap', (w'.cell? ⟨bL, j * 261 + 65, none⟩ = some (.int .i32 (m : Nat)) ∧ (∃ u, w'.cell? ⟨bL, j * 261 + m, none⟩ = some u) ∧ ∀ q, w'.frozen? ⟨bL, q, none⟩ = false) ∧ R5 I p nL W C bt bL bra brn brl bc c0 g' cap' (i + 1) ((w'.drew.setCell ⟨bL, j * 261 + m, none⟩ (.int .u32 ((i : Int) + 1))).setCell ⟨bL, j * 261 + 65, none⟩ (.int .i32 ((m : Int) + 1))))) := hpush
      have HLT : Hid (C ≤ wo.heap.size) := HR.out.runs.sz
      have hwlt : C ≤ wo.heap.size := HR.out.runs.sz
      have hbC : bC < wo.heap.size := Nat.lt_of_lt_of_le HG.out.lC.1 HR.out.fr.size
      clear hpush hx hT hn hl hr hlr hrA hrN hrL ht hj hm
      rw [ha1]
      obtain ⟨o0, o1, o2, o3, o4, o5⟩ := HOO.out
      have hd1 : bra ≠ brn := by omega
      have hd2 : bra ≠ brl := by omega
      have hd3 : brn ≠ brl := by omega
      have hd4 : brn ≠ bra := by omega
      have hd5 : brl ≠ bra := by omega
      have hd6 : brl ≠ brn := by omega
      have hb1 : bra < wo.heap.size := by omega
      have hb2 : brn < wo.heap.size := by omega
      have hb3 : brl < wo.heap.size := by omega
      go_upto_region 51 with fail
      clear c1 c2 c3 g1
      go_upto_region 52 with fail
      clear ca cb cl fa fb fl
      go_wp2_with fail
      refine Calls.mono HPUSH.out ?_
      rintro e w' ⟨⟨u, rfl⟩, g', cap', ⟨k1, ⟨u2, k2⟩, k3⟩, hR⟩
      have HRn : Hid (R5 I p nL W C bt bL bra brn brl bc c0 g' cap' (i + 1) ((w'.drew.setCell ⟨bL, j * 261 + m, none⟩ (.int .u32 ((i : Int) + 1))).setCell ⟨bL, j * 261 + 65, none⟩ (.int .i32 ((m : Int) + 1)))) := hR
      have hm65 : m ≠ 65 := by omega
      have hm65' : 65 ≠ m := by omega
      clear hR HPUSH HR em en er el hd1 hd2 hd3 hd4 hd5 hd6 hb1 hb2 hb3 b1 b2 b3 hrT hnT hT1 HX HNn HLl HBE HOO o0 o1 o2 o3 o4 o5 hwlt hbC HLT
      have k4 : (w'.drew.setCell ⟨bL, j * 261 + m, none⟩ (.int .u32 ((i : Int) + 1))).cell? ⟨bL, j * 261 + 65, none⟩ = some (.int .i32 (m : Nat)) := (World.cell?_setCell_other _ _ _ _ (fun e => by have h5 := congrArg Addr.off e; simp at h5; omega)).trans k1
      go_upto_region 54 with fail
      obtain ⟨SS, hSS⟩ : ∃ SS : World → Prop, SS = fun W' => W'.cell? ⟨bL, j * 261 + 65, none⟩ = some (.int .i32 (m : Nat)) := ⟨_, rfl⟩
      have HSS : Hid (SS = fun W' => W'.cell? ⟨bL, j * 261 + 65, none⟩ = some (.int .i32 (m : Nat))) := hSS
      have HSd : Hid (SS w'.drew) := by rw [hSS]; exact k1
      have HSe : Hid (SS (w'.drew.setCell ⟨bL, j * 261 + m, none⟩ (.int .u32 ((i : Int) + 1)))) := by rw [hSS]; exact k4
      have k5 := k3 (j * 261 + m)
      have k6 := k3 (j * 261 + 65)
      have k8 : (w'.drew.setCell ⟨bL, j * 261 + m, none⟩ (.int .u32 ((i : Int) + 1))).frozen? ⟨bL, j * 261 + 65, none⟩ = false := by rw [World.frozen?_setCell]; exact k6
      clear hSS k3
      refine wp_region_noPanic ?_
      refine wp_region_held (S := SS) (by kernel_rfl) ?_
      refine wpAnyH_take (i := 0) (v := .pointer (some ⟨bL, j * 261, none⟩)) rfl (by kernel_rfl) (by kernel_rfl) (by kernel_rfl) (fun _ _ _ h => h) (Or.inl ⟨by rfl, fun W hS => by rw [HSS.out] at hS; go_simp⟩) HSd.out ?_
      refine wpAnyH_take (i := 1) (v := .pointer (some ⟨bL, j * 261, none⟩)) rfl (by kernel_rfl) (by kernel_rfl) (by kernel_rfl) (fun _ _ _ h => h) (Or.inl ⟨by rfl, fun W hS => by rw [HSS.out] at hS; go_simp⟩) HSd.out ?_
      refine wpAnyH_take (i := 2) (v := .pointer (some ⟨bL, j * 261, none⟩)) rfl (by kernel_rfl) (by kernel_rfl) (by kernel_rfl) (fun _ _ _ h => h) (Or.inl ⟨by rfl, fun W hS => by rw [HSS.out] at hS; go_simp⟩) HSd.out ?_
      refine wpAnyH_take (i := 3) (v := .pointer (some ⟨bL, j * 261 + 65, none⟩)) rfl (by kernel_rfl) (by kernel_rfl) (by kernel_rfl) (fun _ _ _ h => h) (Or.inl ⟨by rfl, fun W hS => by rw [HSS.out] at hS; go_simp⟩) HSd.out ?_
      refine wpAnyH_take (i := 4) (v := .int .i32 (m : Nat)) rfl (by kernel_rfl) (by kernel_rfl) (by kernel_rfl) (fun _ _ _ h => h) (Or.inl ⟨by rfl, fun W hS => by rw [HSS.out] at hS; go_simp⟩) HSd.out ?_
      refine wpAnyH_take (i := 5) (v := .int .i64 (i : Nat)) rfl (by kernel_rfl) (by kernel_rfl) (by kernel_rfl) (fun _ _ _ h => h) (Or.inl ⟨by rfl, fun W hS => by rw [HSS.out] at hS; go_simp⟩) HSd.out ?_
      refine wpAnyH_take (i := 6) (v := .int .i64 ((i : Int) + 1)) rfl (by kernel_rfl) (by kernel_rfl) (by kernel_rfl) (fun _ _ _ h => h) (Or.inl ⟨by rfl, fun W hS => by rw [HSS.out] at hS; go_simp; rw [IntKind.wrap_i64]; omega⟩) HSd.out ?_
      refine wpAnyH_take (i := 7) (v := .int .u32 ((i : Int) + 1)) rfl (by kernel_rfl) (by kernel_rfl) (by kernel_rfl) (fun _ _ _ h => h) (Or.inl ⟨by rfl, fun W hS => by rw [HSS.out] at hS; go_simp; rw [IntKind.wrap_u32]; omega⟩) HSd.out ?_
      refine wpAnyH_take (i := 8) (v := .pointer (some ⟨bL, j * 261, none⟩)) rfl (by kernel_rfl) (by kernel_rfl) (by kernel_rfl) (fun _ _ _ h => h) (Or.inl ⟨by rfl, fun W hS => by rw [HSS.out] at hS; go_simp⟩) HSd.out ?_
      refine wpAnyH_take (i := 9) (v := .pointer (some ⟨bL, j * 261, none⟩)) rfl (by kernel_rfl) (by kernel_rfl) (by kernel_rfl) (fun _ _ _ h => h) (Or.inl ⟨by rfl, fun W hS => by rw [HSS.out] at hS; go_simp⟩) HSd.out ?_
      refine wpAnyH_take (i := 10) (v := .pointer (some ⟨bL, j * 261 + m, none⟩)) rfl (by kernel_rfl) (by kernel_rfl) (by kernel_rfl) (fun _ _ _ h => h) (Or.inl ⟨by rfl, fun W hS => by rw [HSS.out] at hS; go_simp; intro h5; omega⟩) HSd.out ?_
      refine wpAnyH_all (rs := [11]) (by kernel_rfl) (by simp) ?_
      intro i' hmem
      obtain rfl := List.mem_singleton.1 hmem
      refine wpOp_step rfl (fun K9 hK9 => ?_)
      go_simp
      refine hK9 _ _ ⟨HSe.out, wpAnyH_done (by kernel_rfl) ?_ _⟩
      clear hK9 HSd HSe HSS
      have k9 : (w'.setCell ⟨bL, j * 261 + m, none⟩ (.int .u32 ((i : Int) + 1))).cell? ⟨bL, j * 261 + 65, none⟩ = some (.int .i32 (m : Nat)) := k4
      refine NoPanic.normal ?_
      go_wp2
      exact ⟨⟨i + 1, g', cap', by go_num, by omega, HRn.out⟩, by simp [intOf]; go_num⟩
    · have e1 : ¬ (i : Int) < (I.n1 : Int) := by omega
      go_wp2
      have ei : i = I.n1 := by omega
      subst ei
      have h5 := HR.out
      obtain ⟨o0, o1, o2, o3, o4, o5⟩ := HOO.out
      have hfs := h5.fr.size
      have hkb := kept_bt h5.fr
      have hc : ∀ {p : Addr} {u : Value}, p.block < W.heap.size ∧ p.block ≠ bt → W.cell? p = some u → wo.cell? p = some u := fun hp hcc => hkb.cell (fun _ _ => hp) hcc
      have hsl : ∀ a, a < I.nA → bs a < W.heap.size := fun a ha => World.block_lt_of_cell? W _ (HG.out.chr a ha 0 (I.tot_pos a))
      exact HKN.out _ _ (s57 I HSM.out w0 wo HI.out (dv I bt bA bc c0 g cap bL M nL p bp bb bcap bm mcap tx) (h5.tq0 HG.out HSM.out HI.out HBE.out hL1 HL3.out) (h5.li hp2) HM.out (by show nL ≤ 4096; omega) (fun k => by show cn p I.n1 k ≤ 64; unfold cn; omega) HBE.out HG.out.lt (by have h6 := HG.out.below.size; show w0.heap.size ≤ bL; omega) bC I.nA bra brn brl bs cc
        (fun k hk => by rw [h5.ra.cell k hk, if_pos hk]) (fun k hk => by rw [h5.rn.cell k hk, if_pos hk]) (fun k hk => by rw [h5.rl.cell k hk, if_pos hk]) (fun a ha => hc HG.out.lC (HG.out.chars a ha)) (fun a ha j hj => hc ⟨hsl a ha, (HG.out.l7 a ha).2.2.2.2.2.2⟩ (HG.out.chr a ha j hj))
        ⟨Nat.lt_of_lt_of_le HG.out.lC.1 hfs, h5.ra.lt, h5.rn.lt, h5.rl.lt⟩ ⟨HG.out.lC.2, by show bra ≠ bt; omega, by show brn ≠ bt; omega, by show brl ≠ bt; omega, fun a ha => (HG.out.l7 a ha).2.2.2.2.2.2⟩ ⟨by have h6 := HG.out.lC.1; show bC ≠ bL; omega, by show bra ≠ bL; omega, by show brn ≠ bL; omega, by show brl ≠ bL; omega, fun a ha => by have h6 := hsl a ha; show bs a ≠ bL; omega⟩ rfl (dv_out HG.out HL3.out))
end Go.Proofs.YbulkdhcgDoor
