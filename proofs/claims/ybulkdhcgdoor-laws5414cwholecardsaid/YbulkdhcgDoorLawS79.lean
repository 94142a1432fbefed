/-
  The law from region 79 on: the deletes.
-/
import Derived.Test.YbulkdhcgDoorLawSets
namespace Go.Proofs.YbulkdhcgDoor
open Go.RowKit

noncomputable def rest79 : Code := (Ybad.f3.body.bind (restFrom 79)).getD .skip
set_option maxRecDepth 100000 in
set_option maxHeartbeats 8000000 in
theorem s79 (I : Inp) (hsm : I.Sm) (w0 W : World) (hI : I.At w0) (d : TreeD) (B : Nat) (hT : TP d B W) (hb : Below w0.heap.size w0 W) (hwB : w0.heap.size ≤ B) (bk ck bC cC bra brn brl bG cG : Nat) (bs cc bg : Nat → Nat) (hk : ∀ a, a < d.nA → W.cell? ⟨bk, a, none⟩ = some (.int .u32 (d.ins a : Nat))) (hR : Rd I (fun _ _ => false) W bC bra brn brl d.bi bG bs cc bg) (hl : bk < B ∧ bC < B ∧ bra < B ∧ brn < B ∧ brl < B ∧ ∀ a, a < I.nA → bs a < B) (hdn : d.nA = I.nA) (hdo : d.out d.xs = I.want (I.D I.n5) I.n1) (hdS : d.S = I.D I.n5) (hG : Gn I W B d.bd bG bg)
    {v0 v1 v2 v3 v4 v6 v7 v8 v9 v10 v11 v13 v14 v15 v19 v20 v21 v22 v23 v24 v25 v26 v27 v28 v32 v33 v34 v35 v36 v37 v38 v39 v41 v45 v46 v47 v48 v49 v50 v51 v52 v53 v54 v55 v56 v57 v58 v59 v60 v61 v62 v63 v64 v65 v66 v67 v68 v69 v70 v71 v72 v73 v74 v75 v76 v77 v78 v79 v80 v81 v82 v83 v84 v85 v86 v87 v88 v89 v90 v91 v92 v93 v94 v95 v96 v97 v98 v99 v100 v101 v102 v103 v104 v105 v106 v107 v108 v109 v110 v111 v112 v113 v114 v115 v116 v117 v118 v119 v120 v121 v122 v123 v124 v125 v126 v127 v128 v129 v130 v131 v132 v133 v134 v135 v136 v137 v138 v139 v140 v141 v142 v143 v144 v145 v146 v147 v148 v149 v150 v151 v152 v153 v154 v155 v156 v157 v158 v159 v160 v161 v162 v163 v164 v165 v166 v167 v168 v169 v170 v171 v172 v173 v174 v175 v176 v177 v178 v179 v180 v181 v182 v183 v184 v185 v186 v187 v188 v189 v190 v191 v192 v193 v194 v195 v196 v197 v198 v199 v200 v201 v202 v203 v204 v205 v206 v207 v208 v209 v210 v211 v212 v213 v214 v215 v216 v217 v218 v219 v220 v221 v222 v223 v224 v225 v226 v227 v228 v229 v230 v231 v232 v233 v234 v235 v236 v237 v238 v239 v240 v241 v242 v243 v244 v245 v246 v247 v248 v249 v250 v251 v252 v253 v254 v255 v256 v257 v258 v259 v260 v261 v262 v263 v264 v265 v266 v267 v268 v269 v270 v271 v272 v273 v274 v275 v276 v277 v278 v279 v280 v281 v282 v283 v284 v285 v286 v287 v288 v289 v290 v291 v292 v293 v294 v295 v296 v297 v298 v299 v300 v301 v302 v303 v304 v305 v306 v307 v308 v309 v310 v311 v312 v313 v314 v315 v316 v317 v318 v319 v320 v321 v322 v323 v324 v325 v326 v327 v328 v329 v330 v331 v332 v333 v334 v335 v336 v337 v338 v339 v340 v341 v342 v343 v344 v345 v346 v347 v348 v349 v350 v351 v352 v353 v354 v355 v356 v357 v358 v359 v360 v361 v362 v363 v364 v365 v366 v367 v368 v369 v370 v371 v372 v373 v374 v375 v376 v377 v378 v379 v380 v381 v382 v383 v384 v385 v386 v387 v388 v389 v390 v391 v392 v393 v394 v395 v396 v397 v398 v399 v400 v401 v402 v403 v404 v405 v406 v407 v408 v409 v410 v411 v412 v413 v414 v415 v416 v417 v418 v419 v420 v421 v422 v423 v424 v425 v426 v427 v428 v429 v430 v431 v432 v433 v434 v435 v436 v437 v438 v439 v440 v441 v442 v443 v444 v445 v446 v447 v448 v449 v450 v451 v452 v453 v454 v455 v456 v457 v458 v459 v460 v461 v462 v463 v464 v465 v466 : Value} :
    Code.wp Ybad.prog rest79 (bodyPost Ybad.prog Ybad.f3 (lawPost w0)) ⟨#[v0, v1, v2, v3, v4, .slice I.a5 I.n5 I.k5, v6, v7, v8, v9, v10, v11, .bool false, v13, v14, v15, .int .i64 (d.nA : Nat), .slice (some ⟨bC, 0, none⟩) d.nA cC, .pointer (some ⟨d.bt, 0, none⟩), v19, v20, v21, v22, v23, v24, v25, v26, v27, v28, .slice (some ⟨bra, 0, none⟩) I.n1 I.n1, .slice (some ⟨brn, 0, none⟩) I.n1 I.n1, .slice (some ⟨brl, 0, none⟩) I.n1 I.n1, v32, v33, v34, v35, v36, v37, v38, v39, .slice (some ⟨d.bi, 0, none⟩) d.nA d.ci, v41, .slice (some ⟨bk, 0, none⟩) d.nA ck, .slice (some ⟨d.bd, 0, none⟩) d.nA d.cd, .slice (some ⟨bG, 0, none⟩) d.nA cG, v45, v46, v47, v48, v49, v50, v51, v52, v53, v54, v55, v56, v57, v58, v59, v60, v61, v62, v63, v64, v65, v66, v67, v68, v69, v70, v71, v72, v73, v74, v75, v76, v77, v78, v79, v80, v81, v82, v83, v84, v85, v86, v87, v88, v89, v90, v91, v92, v93, v94, v95, v96, v97, v98, v99, v100, v101, v102, v103, v104, v105, v106, v107, v108, v109, v110, v111, v112, v113, v114, v115, v116, v117, v118, v119, v120, v121, v122, v123, v124, v125, v126, v127, v128, v129, v130, v131, v132, v133, v134, v135, v136, v137, v138, v139, v140, v141, v142, v143, v144, v145, v146, v147, v148, v149, v150, v151, v152, v153, v154, v155, v156, v157, v158, v159, v160, v161, v162, v163, v164, v165, v166, v167, v168, v169, v170, v171, v172, v173, v174, v175, v176, v177, v178, v179, v180, v181, v182, v183, v184, v185, v186, v187, v188, v189, v190, v191, v192, v193, v194, v195, v196, v197, v198, v199, v200, v201, v202, v203, v204, v205, v206, v207, v208, v209, v210, v211, v212, v213, v214, v215, v216, v217, v218, v219, v220, v221, v222, v223, v224, v225, v226, v227, v228, v229, v230, v231, v232, v233, v234, v235, v236, v237, v238, v239, v240, v241, v242, v243, v244, v245, v246, v247, v248, v249, v250, v251, v252, v253, v254, v255, v256, v257, v258, v259, v260, v261, v262, v263, v264, v265, v266, v267, v268, v269, v270, v271, v272, v273, v274, v275, v276, v277, v278, v279, v280, v281, v282, v283, v284, v285, v286, v287, v288, v289, v290, v291, v292, v293, v294, v295, v296, v297, v298, v299, v300, v301, v302, v303, v304, v305, v306, v307, v308, v309, v310, v311, v312, v313, v314, v315, v316, v317, v318, v319, v320, v321, v322, v323, v324, v325, v326, v327, v328, v329, v330, v331, v332, v333, v334, v335, v336, v337, v338, v339, v340, v341, v342, v343, v344, v345, v346, v347, v348, v349, v350, v351, v352, v353, v354, v355, v356, v357, v358, v359, v360, v361, v362, v363, v364, v365, v366, v367, v368, v369, v370, v371, v372, v373, v374, v375, v376, v377, v378, v379, v380, v381, v382, v383, v384, v385, v386, v387, v388, v389, v390, v391, v392, v393, v394, v395, v396, v397, v398, v399, v400, v401, v402, v403, v404, v405, v406, v407, v408, v409, v410, v411, v412, v413, v414, v415, v416, v417, v418, v419, v420, v421, v422, v423, v424, v425, v426, v427, v428, v429, v430, v431, v432, v433, v434, v435, v436, v437, v438, v439, v440, v441, v442, v443, v444, v445, v446, v447, v448, v449, v450, v451, v452, v453, v454, v455, v456, v457, v458, v459, v460, v461, v462, v463, v464, v465, v466], []⟩ W := by
  have HI : Hid (I.At w0) := hI
  have HT : Hid (TP d B W) := hT
  have HB : Hid (Below w0.heap.size w0 W) := hb
  have HK : Hid (∀ a, a < d.nA → W.cell? ⟨bk, a, none⟩ = some (.int .u32 (d.ins a : Nat))) := hk
  have HR : Hid (Rd I (fun _ _ => false) W bC bra brn brl d.bi bG bs cc bg) := hR
  have HL : Hid (bk < B ∧ bC < B ∧ bra < B ∧ brn < B ∧ brl < B ∧ ∀ a, a < I.nA → bs a < B) := hl
  have HN : Hid (d.nA = I.nA) := hdn
  have HO : Hid (d.out d.xs = I.want (I.D I.n5) I.n1) := hdo
  have HS : Hid (d.S = I.D I.n5) := hdS
  have HG : Hid (Gn I W B d.bd bG bg) := hG
  have HSM : Hid I.Sm := hsm
  have hn5 := hsm.n5
  have hnA : d.nA ≤ 64 := by rw [hdn]; exact Inp.nA_le hsm
  have hnA1 : 1 ≤ d.nA := by rw [hdn]; exact I.nA_pos
  have HI0 : Hid (SV I 0 W d.bd bg (fun _ => noL) (fun _ => .slice none 0 0) (fun _ _ => .slice none 0 0) W) := SV.start hG hR.go
  have HWB : Hid (w0.heap.size ≤ B) := hwB
  have hblw : ∀ wr, XFr W wr (fun k => k = d.bd ∨ ∃ a, a < I.nA ∧ k = bg a) → Below w0.heap.size w0 wr := fun wr hx => hb.trans ⟨hx.os, hx.tape, hx.output, hx.size, fun k hk => hx.blk k (Nat.lt_of_lt_of_le hk hb.size) (fun e => by
    rcases e with e | ⟨a, ha, e⟩
    · have := hG.b1; omega
    · have := hG.b3 a ha; omega)⟩
  have HBW : Hid (∀ wr, XFr W wr (fun k => k = d.bd ∨ ∃ a, a < I.nA ∧ k = bg a) → Below w0.heap.size w0 wr) := hblw
  have hkpw : ∀ wr, XFr W wr (fun k => k = d.bd ∨ ∃ a, a < I.nA ∧ k = bg a) → Kept (fun k _ => k < B) W wr := fun wr hx => ⟨hx.os, hx.tape, hx.output, hx.size, fun k o ho hk => (hx.blk k (Array.getElem?_eq_some_iff.1 ho).1 (fun e => by
    rcases e with e | ⟨a, ha, e⟩
    · have := hG.b1; omega
    · have := hG.b3 a ha; omega)).trans ho⟩
  have HKW : Hid (∀ wr, XFr W wr (fun k => k = d.bd ∨ ∃ a, a < I.nA ∧ k = bg a) → Kept (fun k _ => k < B) W wr) := hkpw
  have hgonew : ∀ wr, XFr W wr (fun k => k = d.bd ∨ ∃ a, a < I.nA ∧ k = bg a) → ∀ a, a < I.nA → wr.cell? ⟨bG, a, none⟩ = some (.slice (some ⟨bg a, 0, none⟩) (I.tot a) (I.tot a)) := fun wr hx a ha => (hx.cell a (World.block_lt_of_cell? W _ (hR.gone a ha)) (fun e => by
    rcases e with e | ⟨a', ha', e⟩
    · exact hG.n1 e.symm
    · exact (hG.n2 a' ha').2.1 e.symm)).trans (hR.gone a ha)
  have HGW : Hid (∀ wr, XFr W wr (fun k => k = d.bd ∨ ∃ a, a < I.nA ∧ k = bg a) → ∀ a, a < I.nA → wr.cell? ⟨bG, a, none⟩ = some (.slice (some ⟨bg a, 0, none⟩) (I.tot a) (I.tot a))) := hgonew
  have HBD : Hid (0 < d.bd) := Nat.lt_of_lt_of_le hT.l0 hG.b1
  clear hI hT hb hk hR hl hdn hdo hdS hG hsm hwB hblw hkpw hgonew
  conv => arg 2; whnf
  conv => arg 4; dsimp only
  go_wp2
  go_loopw [348] (fun x wr => ∃ (i : Nat) (s : Nat → Lvs) (v : Nat → Value) (lv : Nat → Nat → Value), x = .int .i64 i ∧ i ≤ I.n5 ∧ SV I i W d.bd bg s v lv wr) (fun x _ => I.n5 - (intOf x).toNat)
  case atStart => exact ⟨0, _, _, _, rfl, Nat.zero_le _, HI0.out⟩
  case round =>
    rename_i Kn hKn
    have HKN : Hid (∀ a w, Code.wp Ybad.prog rest92 (bodyPost Ybad.prog Ybad.f3 (lawPost w0)) a w → Kn a w) := hKn
    clear hKn HI0
    obtain ⟨i, s, v, lv, rfl, hi, hs⟩ := hrel
    obtain ⟨wo, rfl⟩ : ∃ wo, wo = wr := ⟨_, rfl⟩
    have HSI : Hid (SV I i W d.bd bg s v lv wo) := hs
    clear hs
    by_cases h : i < I.n5
    · have e1 : (i : Int) < (I.n5 : Int) := by omega
      obtain ⟨b, o, ha5, c1, c2, c3, b1, b2, b3⟩ := (HI.out.below (HBW.out wo HSI.out.fr)).d i h
      obtain ⟨dA, hdA⟩ : ∃ dA, dA = I.dA i := ⟨_, rfl⟩
      obtain ⟨dL, hdL⟩ : ∃ dL, dL = I.dL i := ⟨_, rfl⟩
      obtain ⟨dS, hdS⟩ : ∃ dS, dS = I.dS i := ⟨_, rfl⟩
      rw [← hdA] at c1 b1
      rw [← hdL] at c2 b2
      rw [← hdS] at c3 b3
      have HA : Hid (dA = I.dA i) := hdA
      have HL' : Hid (dL = I.dL i) := hdL
      have HS' : Hid (dS = I.dS i) := hdS
      clear hdA hdL hdS
      obtain ⟨x, hx⟩ : ∃ x, x = I.dA i % I.nA := ⟨_, rfl⟩
      have HX : Hid (x = I.dA i % I.nA) := hx
      have hxI : x < I.nA := by rw [hx]; exact Nat.mod_lt _ I.nA_pos
      have hxl : x < d.nA := by rw [HN.out]; exact hxI
      have em : ((dA : Nat) : Int) % ((d.nA : Nat) : Int) = ((x : Nat) : Int) := by rw [hx, ← HN.out, ← HA.out]; exact (Int.natCast_emod _ _).symm
      obtain ⟨hi', hhi'⟩ : ∃ hi', hi' = dL + dS % 80 := ⟨_, rfl⟩
      have eh : (dL : Int) + (dS : Int) % 80 = (hi' : Int) := by omega
      have hhb : hi' ≤ 131072 := by omega
      have HH : Hid (hi' = I.dL i + I.dS i % 80) := by rw [hhi', HL'.out, HS'.out]; exact rfl
      have HHL : Hid (dL ≤ hi') := by have h5 : dL ≤ hi' := by omega
                                      exact h5
      clear hx hhi'
      rw [ha5]
      have hadd : ∀ W2 : World, XFr wo W2 (fun _ => False) → Calls Ybad.prog 7 #[.pointer (some ⟨d.bd, x, none⟩), .int .u32 dL, .int .u32 hi'] W2 fun e w' => (∃ v, e = .returned v) ∧ ∃ s' v' lv', SJ I i (I.dL i) W d.bd bg s' v' lv' w' := fun W2 hx2 => by
        have hs2 : SV I i W d.bd bg s v lv W2 := ⟨fun a ha => ⟨(HSI.out.ok a ha).1, (HSI.out.ok a ha).2.1, (HSI.out.ok a ha).2.2.1, (HSI.out.ok a ha).2.2.2.moved hx2.size ((xfr_below hx2).cell (Nat.lt_of_lt_of_le HG.out.lt HSI.out.fr.size)) ((xfr_below hx2).frozen (Nat.lt_of_lt_of_le HG.out.lt HSI.out.fr.size)) (fun g _ hg _ => hx2.blk g hg (fun e => e))⟩, HSI.out.dis,
          fun a ha y hy => hx2.keep (HSI.out.go a ha y hy), fun a ha y => ((xfr_below hx2).frozen (Nat.lt_of_lt_of_le (HG.out.n2 a ha).2.2 HSI.out.fr.size)).trans (HSI.out.frz a ha y), HSI.out.fr.trans hx2 (fun g hg => hg.elim)⟩
        obtain ⟨k1, k2, k3, k4⟩ := hs2.ok x hxI
        have hTab : Tab W2 := (HI.out.below (HBW.out W2 hs2.fr)).tab
        refine (add_any (s x) dL hi' W2 W.heap.size d.bd x (Ub (s x).L (v x) (lv x)) (v x) (lv x) hTab ⟨HBD.out, fun e => by have h5 := (k4.ublt e).1; have h6 := HG.out.lt; omega⟩ (by omega) hhb
          ⟨k1, k2, k4, CFr.refl _ _ _ _, fun g hg => Or.inl hg, fun y hy => Or.inl hy, fun y hy => hy, fun y h1 h2 _ => by omega, Nat.le_refl _, by omega⟩).mono ?_
        rintro e w' ⟨he, hp⟩
        refine ⟨he, hs2.add HG.out ?_⟩
        rw [← HX.out, ← HH.out, ← HL'.out]; exact hp
      have HADD : Hid (∀ W2 : World, XFr wo W2 (fun _ => False) → Calls Ybad.prog 7 #[.pointer (some ⟨d.bd, x, none⟩), .int .u32 dL, .int .u32 hi'] W2 fun e w' => (∃ v, e = .returned v) ∧ ∃ s' v' lv', SJ I i (I.dL i) W d.bd bg s' v' lv' w') := hadd
      have HXA : Hid (∀ o : Obj, XFr wo (wo.alloc o) (fun _ => False)) := fun o => (XFr.refl _ _).alloc o
      clear hadd
      go_wp2_with (go_at_call 7; refine Calls.mono (HADD.out _ (HXA.out _)) ?_; rintro e w' ⟨⟨u, rfl⟩, s', v', lv', hJ⟩)
      rw [← HL'.out] at hJ
      have HJ : Hid (SJ I i dL W d.bd bg s' v' lv' w') := hJ
      have hw'c : w'.cell? ⟨wo.heap.size, 0, none⟩ = w'.cell? ⟨wo.heap.size, 0, none⟩ := rfl
      clear hJ HADD HXA c1 c2 c3 em eh hw'c ha5
      go_loopw [51] (fun q wx => ∃ c : Nat, q = .int .u32 c ∧ dL ≤ c ∧ c ≤ hi' ∧ SJ I i c W d.bd bg s' v' lv' wx) (fun q _ => hi' - (intOf q).toNat)
      case atStart => exact ⟨dL, rfl, Nat.le_refl _, HHL.out, HJ.out⟩
      case round =>
        clear HJ HSI
        obtain ⟨c, rfl, hc1, hc2, hJ⟩ := hrel
        obtain ⟨wq, rfl⟩ : ∃ wq, wq = wr := ⟨_, rfl⟩
        have HJ : Hid (SJ I i c W d.bd bg s' v' lv' wq) := hJ
        clear hJ
        by_cases h2 : c < hi'
        · have e2 : (c : Int) < (hi' : Int) := by omega
          have g1 := HGW.out wq HJ.out.fr x hxI
          have htot := Inp.tot_le HSM.out x
          obtain ⟨T, hT⟩ : ∃ T, T = I.tot x := ⟨_, rfl⟩
          have HTT : Hid (T = I.tot x) := hT
          rw [← hT] at g1 htot
          clear hT
          by_cases h3 : c < T
          · have g2 := HJ.out.go x hxI c (by rw [← HTT.out]; exact h3)
            have f2 := HJ.out.frz x hxI c
            have HP : Hid (SJ I i (c + 1) W d.bd bg s' v' lv' (wq.setCell ⟨bg x, c, none⟩ (.bool true))) := by
              have h5 := HJ.out.put HG.out (by rw [← HL'.out]; exact hc1)
              rw [← HX.out] at h5; exact h5
            have e3 : (c : Int) < (T : Int) := by omega
            go_wp2
            exact ⟨⟨c + 1, by go_num, by omega, by omega, HP.out⟩, by simp [intOf]; go_num⟩
          · have e3 : ¬ (c : Int) < (T : Int) := by omega
            have HP : Hid (SJ I i (c + 1) W d.bd bg s' v' lv' wq) := HJ.out.skip (by rw [← HX.out, ← HTT.out]; omega)
            go_wp2
            exact ⟨⟨c + 1, by go_num, by omega, by omega, HP.out⟩, by simp [intOf]; go_num⟩
        · have e2 : ¬ (c : Int) < (hi' : Int) := by omega
          go_wp2
          have ec : c = hi' := by omega
          subst ec
          have h5 := HJ.out
          rw [HH.out] at h5
          exact ⟨⟨i + 1, s', v', lv', by go_num, by omega, h5.done⟩, by simp [intOf]; go_num⟩
    · have e1 : ¬ (i : Int) < (I.n5 : Int) := by omega
      go_wp2
      have ei : i = I.n5 := by omega
      subst ei
      have hx := HSI.out.fr
      have hkp := HKW.out wo hx
      have hc : ∀ {p : Addr} {u : Value}, p.block < B → W.cell? p = some u → wo.cell? p = some u := fun hp hcc => hkp.cell (fun _ _ => hp) hcc
      have hlb := HL.out
      refine HKN.out _ _ (s92 I HSM.out w0 wo d (HT.out.at' hkp (by have h5 := HG.out.b1; have h6 := HG.out.lt; have h7 := hx.size; omega) (fun a ha => by rw [HS.out]; exact (HSI.out.ok a (by rw [← HN.out]; exact ha)).2.2.2.setAt (HSI.out.ok a (by rw [← HN.out]; exact ha)).1 (HSI.out.ok a (by rw [← HN.out]; exact ha)).2.2.1)) (HBW.out wo hx) bk ck bC cC bra brn brl bG cG bs cc bg (I.D I.n5) (fun a ha => hc hlb.1 (HK.out a ha))
        ⟨fun k h5 => hc hlb.2.2.1 (HR.out.ra k h5), fun k h5 => hc hlb.2.2.2.1 (HR.out.rn k h5), fun k h5 => hc hlb.2.2.2.2.1 (HR.out.rl k h5), fun k h5 => hc HT.out.l6 (HR.out.ins k h5), fun k h5 => HGW.out wo hx k h5, HSI.out.go, fun k h5 => hc hlb.2.1 (HR.out.chars k h5), fun k h5 j h6 => hc (hlb.2.2.2.2.2 k h5) (HR.out.chr k h5 j h6)⟩ HN.out HO.out)
end Go.Proofs.YbulkdhcgDoor
