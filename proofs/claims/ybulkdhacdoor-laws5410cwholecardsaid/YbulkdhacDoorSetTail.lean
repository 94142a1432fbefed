/-
  The law from the call of set on, where there is an event before.
-/
import Derived.Test.YbulkdhacDoorR34
namespace Go.Proofs.YbulkdhacDoor
open Go.RowKit Floats
attribute [local go_sem] run_store_flt alloc_drewN setCell_drewN

noncomputable def rest14 : Code := (Ybad.f3.body.bind (restFrom 14)).getD .skip

set_option maxRecDepth 100000 in
set_option maxHeartbeats 8000000 in
theorem tail14 (b0 : Bool) (F : Nat → Nat) (I : Nat → Int) (w wd : World) (ec : List Value) (a c : Nat) (ev : List Value) (mm bb qq : Nat → Nat) (N G Pr x0 x1 x2 x3 x4 x5 d0 d1 d2 d3 d4 d5 d6 d7 d8 p0 p1 p2 p3 p4 p5 p6 p7 p8 : Int) (n0 n1 n2 n3 n4 n5 n6 n7 n8 : Nat) (sc fo pe : Bool) (r0 r1 r2 r3 r4 r5 r6 r7 r8 : Nat) (L : List Nat)
    (HEC : Hid (ec = [.int .i64 N, .int .i64 G, .int .i64 Pr, .int .u64 d0, .int .u64 d1, .int .u64 d2, .int .u64 d3, .int .u64 d4, .int .u64 d5, .int .u64 d6, .int .u64 d7, .int .u64 d8, .int .u8 p0, .int .u8 p1, .int .u8 p2, .int .u8 p3, .int .u8 p4, .int .u8 p5, .int .u8 p6, .int .u8 p7, .int .u8 p8, .int .i64 x0, .int .i64 x1, .int .i64 x2, .int .i64 x3, .int .i64 x4, .int .i64 x5, .bool sc, .bool fo, .bool pe])) (HEV : Hid (ev = [.int .i64 N, .int .u64 d0, .int .u8 ((n0 : Nat) : Int), .int .i64 G, .int .u64 d1, .int .u8 ((n1 : Nat) : Int), .int .u64 d2, .int .u8 ((n2 : Nat) : Int), .int .u64 d3, .int .u8 ((n3 : Nat) : Int), .int .u64 d4, .int .u8 ((n4 : Nat) : Int), .int .u64 d5, .int .u8 ((n5 : Nat) : Int), .int .u64 d6, .int .u8 ((n6 : Nat) : Int), .int .u64 d7, .int .u8 ((n7 : Nat) : Int), .int .u64 d8, .int .u8 ((n8 : Nat) : Int), .int .i64 x0, .int .i64 x1, .int .i64 x2, .int .i64 x3, .int .i64 x4, .int .i64 x5, .bool sc, .int .i64 Pr, .bool fo, .bool pe])) (HQ : Hid ((Ev.mk N G Pr x0 x1 x2 x3 x4 x5 d0 d1 d2 d3 d4 d5 d6 d7 d8 n0 n1 n2 n3 n4 n5 n6 n7 n8 sc fo pe).Quo r0 r1 r2 r3 r4 r5 r6 r7 r8)) (HFT : Hid ((Ev.mk N G Pr x0 x1 x2 x3 x4 x5 d0 d1 d2 d3 d4 d5 d6 d7 d8 n0 n1 n2 n3 n4 n5 n6 n7 n8 sc fo pe).Fit)) (HLL : Hid (L = [floatOfInt .f64 N, r0, floatOfInt .f64 G, r1, r2, r3, r4, r5, r6, r7, r8, floatOfInt .f64 x0, floatOfInt .f64 x1, floatOfInt .f64 x2, floatOfInt .f64 x3, floatOfInt .f64 x4, floatOfInt .f64 x5, scanB sc, floatOfInt .f64 Pr]))
    (H0 : Hid (floatBits .add .f64 (L.getD 0 0) one64 = some (mm 0))) (HM : Hid (∀ i, 0 < i → i < 19 → L.getD i 0 = mm i)) (HBB : Hid (∀ i, i < 19 → floatBits .add .f64 (mm i) one64 = some (bb i))) (HQQ : Hid (∀ i, i < 19 → floatBits .quo .f64 one64 (bb i) = some (qq i)))
    (HP0 : Hid (HeldP w wd (yv b0 F I) ec (yv b0 F I) a c ev)) (HSZ : Hid (w.heap.size + 1 + 1 < c)) (HLA : Hid (c < a)) (HLD : Hid (a < wd.heap.size))
    (v0 v2 v4 v6 v8 v11 v12 v13 v14 v15 v16 v17 v18 v19 v20 v21 v22 v23 v24 v25 v26 v27 v28 v29 v30 v31 v32 v33 v34 v35 v36 v37 v38 v39 v40 v41 v42 v43 v44 v45 v46 v47 v48 v49 v50 v51 v52 v53 v54 v55 v56 v57 v58 v59 v60 v61 v62 v63 v64 v65 v66 v67 v68 v69 v70 v71 v72 v73 v74 v75 v76 v77 v78 v79 v80 v81 v82 v83 v84 v85 v86 v87 v88 v89 v90 v91 v92 v93 v94 v95 v96 v97 v98 v99 v100 v101 v102 v103 v104 v105 v106 v107 v108 v109 v110 v111 v112 v113 v114 v115 v116 v117 v118 v119 v120 v121 v122 v123 v124 v125 v126 v127 v128 v129 v130 v131 v132 v133 v134 v135 v136 v137 v138 v139 v140 v141 v142 v143 v144 v145 v146 v147 v148 v149 v150 v151 v152 v153 v154 v155 v156 v157 v158 v159 v160 v161 v162 v163 v164 v165 v166 v167 v168 v169 v170 v171 v172 v173 v174 v175 v176 v177 v178 v179 v180 v181 v182 v183 v184 v185 v186 v187 v188 v189 v190 v191 v192 v193 v194 v195 v196 v197 v198 v199 v200 v201 v202 v203 v204 v205 v206 v207 v208 v209 v210 v211 v212 v213 v214 v215 v216 v217 v218 v219 v220 v221 v222 v223 v224 v225 v226 v227 v228 v229 v230 v231 v232 v233 v234 v235 v236 v237 v238 v239 v240 v241 v242 v243 v244 v245 v246 v247 v248 v249 v250 v251 v252 v253 v254 v255 v256 v257 v258 v259 v260 v261 v262 v263 v264 v265 v266 v267 v268 v269 v270 v271 v272 v273 v274 v275 v276 v277 v278 v279 v280 v281 v282 v283 v284 v285 v286 v287 v288 v289 v290 v291 v292 v293 v294 v295 v296 v297 v298 v299 v300 v301 v302 v303 v304 v305 v306 v307 v308 v309 v310 v311 v312 v313 v314 v315 v316 v317 v318 v319 v320 v321 v322 v323 v324 v325 v326 v327 v328 v329 v330 v331 v332 v333 v334 v335 v336 v337 v338 v339 v340 v341 v342 v343 v344 v345 v346 v347 v348 v349 v350 v351 v352 v353 v354 v355 v356 v357 v358 v359 v360 v361 v362 v363 v364 v365 v366 v367 v368 v369 v370 v371 v372 v373 v374 v375 v376 v377 v378 v379 v380 v381 v382 v383 v384 v385 v386 v387 v388 v389 v390 v391 v392 v393 v394 v395 v396 v397 v398 v399 v400 v401 v402 v403 v404 : Value) :
    Code.wp Ybad.prog rest14 (bodyPost Ybad.prog Ybad.f3 fun e w' => e = .returned (.bool true) ∧ Below w.heap.size w w') ⟨#[v0, .bool true, v2, .pointer (some ⟨w.heap.size, 0, none⟩), v4, .pointer (some ⟨w.heap.size + 1, 0, none⟩), v6, .pointer (some ⟨w.heap.size + 1 + 1, 0, none⟩), v8, .pointer (some ⟨a, 0, none⟩), .pointer (some ⟨c, 0, none⟩), v11, v12, v13, v14, v15, v16, v17, v18, v19, v20, v21, v22, v23, v24, v25, v26, v27, v28, v29, v30, v31, v32, v33, v34, v35, v36, v37, v38, v39, v40, v41, v42, v43, v44, v45, v46, v47, v48, v49, v50, v51, v52, v53, v54, v55, v56, v57, v58, v59, v60, v61, v62, v63, v64, v65, v66, v67, v68, v69, v70, v71, v72, v73, v74, v75, v76, v77, v78, v79, v80, v81, v82, v83, v84, v85, v86, v87, v88, v89, v90, v91, v92, v93, v94, v95, v96, v97, v98, v99, v100, v101, v102, v103, v104, v105, v106, v107, v108, v109, v110, v111, v112, v113, v114, v115, v116, v117, v118, v119, v120, v121, v122, v123, v124, v125, v126, v127, v128, v129, v130, v131, v132, v133, v134, v135, v136, v137, v138, v139, v140, v141, v142, v143, v144, v145, v146, v147, v148, v149, v150, v151, v152, v153, v154, v155, v156, v157, v158, v159, v160, v161, v162, v163, v164, v165, v166, v167, v168, v169, v170, v171, v172, v173, v174, v175, v176, v177, v178, v179, v180, v181, v182, v183, v184, v185, v186, v187, v188, v189, v190, v191, v192, v193, v194, v195, v196, v197, v198, v199, v200, v201, v202, v203, v204, v205, v206, v207, v208, v209, v210, v211, v212, v213, v214, v215, v216, v217, v218, v219, v220, v221, v222, v223, v224, v225, v226, v227, v228, v229, v230, v231, v232, v233, v234, v235, v236, v237, v238, v239, v240, v241, v242, v243, v244, v245, v246, v247, v248, v249, v250, v251, v252, v253, v254, v255, v256, v257, v258, v259, v260, v261, v262, v263, v264, v265, v266, v267, v268, v269, v270, v271, v272, v273, v274, v275, v276, v277, v278, v279, v280, v281, v282, v283, v284, v285, v286, v287, v288, v289, v290, v291, v292, v293, v294, v295, v296, v297, v298, v299, v300, v301, v302, v303, v304, v305, v306, v307, v308, v309, v310, v311, v312, v313, v314, v315, v316, v317, v318, v319, v320, v321, v322, v323, v324, v325, v326, v327, v328, v329, v330, v331, v332, v333, v334, v335, v336, v337, v338, v339, v340, v341, v342, v343, v344, v345, v346, v347, v348, v349, v350, v351, v352, v353, v354, v355, v356, v357, v358, v359, v360, v361, v362, v363, v364, v365, v366, v367, v368, v369, v370, v371, v372, v373, v374, v375, v376, v377, v378, v379, v380, v381, v382, v383, v384, v385, v386, v387, v388, v389, v390, v391, v392, v393, v394, v395, v396, v397, v398, v399, v400, v401, v402, v403, v404], []⟩ wd := by
  conv => arg 2; whnf
  go_wp2_with fail
  have hfig : ∀ W, (∀ p v, p.block ≠ w.heap.size + 1 + 1 → wd.cell? p = some v → W.cell? p = some v) → wd.heap.size ≤ W.heap.size → Calls Ybad.prog 11 #[.pointer (some ⟨a, 0, none⟩)] W fun e w' => e = .returned (.agg (fl L)) ∧ Below W.heap.size W w' := by
    intro W hc hs
    have hh := HP0.out.h
    have hsz := HSZ.out
    have hal := HLA.out
    have hld := HLD.out
    have hpw : Pow W := ⟨Nat.lt_of_lt_of_le hh.pow.size hs, fun j hj => hc _ _ (by show (1 : Nat) ≠ _; have := hh.y1.lt; have := hh.pow.size; omega) (hh.pow.cell j hj)⟩
    have he : (Ev.mk N G Pr x0 x1 x2 x3 x4 x5 d0 d1 d2 d3 d4 d5 d6 d7 d8 n0 n1 n2 n3 n4 n5 n6 n7 n8 sc fo pe).At W a := by
      intro i hi
      have hl : ev[i]? = some (ev[i]'(by rw [HEV.out]; exact hi)) := List.getElem?_eq_getElem _
      have := HP0.out.ea i _ hl
      rw [Nat.zero_add] at this
      rw [hc _ _ (by show a ≠ _; omega) this, ← hl, HEV.out]; rfl
    exact figures_fl _ r0 r1 r2 r3 r4 r5 r6 r7 r8 HQ.out HFT.out a W hpw (by omega) he L HLL.out
  refine (set_prev _ a _ wd HP0.out.h.y1 L (by rw [HLL.out]; exact len_list _ _ _ _ _ _ _ _ _ _ _ _ _ _ _ _ _ _ _) mm bb qq H0.out HM.out HBB.out HQQ.out hfig).mono ?_
  clear hfig
  rintro e ws ⟨rfl, hg, B, hy, hd⟩
  have HD : Hid (Done B 19 mm bb qq (upd (recN (yv b0 F I) 64) 0 (.bool false))) := hd
  have H1 : Hid (HeldP w ws (yv b0 F I) ec B a c ev) :=
    ⟨HP0.out.h.grown hg hy, fun j v hv => hg.cell (HP0.out.ea j v hv) (by simp only [ne_eq, Option.some.injEq]; have := HLA.out; have := HSZ.out; omega), fun j v hv => hg.cell (HP0.out.eb j v hv) (by simp only [ne_eq, Option.some.injEq]; have := HSZ.out; omega)⟩
  clear hg hy hd HP0 HLD
  go_wp2_with fail
  go_loopg [12] 64 (fun g i wr => ∃ k : Nat, k + g = 64 ∧ i = .int .i64 k ∧ HeldP w wr (yv b0 F I) ec B a c ev)
  case atStart => exact ⟨0, by omega, rfl, H1.out⟩
  case round =>
    clear H1
    obtain ⟨k, hk, rfl, h1⟩ := hrel
    have H1 : Hid (HeldP w wr (yv b0 F I) ec B a c ev) := h1
    have HK : Hid (k + gk = 64) := hk
    clear hk
    by_cases hlt : k < 64
    · have i1 : (0 : Int) ≤ (k : Int) := by omega
      have i2 : (k : Int) < 64 := by omega
      obtain ⟨x, hx⟩ := yv_x b0 F I k
      obtain ⟨t, ht⟩ := yv_t b0 F I k
      have c1 : wr.cell? ⟨w.heap.size + 1 + 1, 58 + k * 3, none⟩ = some (.int .i64 (-1)) := (h1.h.y1.cell (58 + k * 3) (by omega)).trans (by rw [done_f HD.out k hlt])
      have c2 : wr.cell? ⟨w.heap.size + 1 + 1, 58 + k * 3 + 1, none⟩ = some (.float .f64 x) := (h1.h.y1.cell (58 + k * 3 + 1) (by omega)).trans (by rw [done_x HD.out k, hx])
      have c3 : wr.cell? ⟨w.heap.size + 1 + 1, 58 + k * 3 + 2, none⟩ = some (.float .f64 t) := (h1.h.y1.cell (58 + k * 3 + 2) (by omega)).trans (by rw [done_t HD.out k, ht])
      have c4 : wr.cell? ⟨w.heap.size, 58 + k * 3 + 1, none⟩ = some (.float .f64 x) := (h1.h.y0.cell (58 + k * 3 + 1) (by omega)).trans (by rw [hx])
      have c5 : wr.cell? ⟨w.heap.size, 58 + k * 3 + 2, none⟩ = some (.float .f64 t) := (h1.h.y0.cell (58 + k * 3 + 2) (by omega)).trans (by rw [ht])
      clear h1 hx ht
      go_upto_region 18 with fail
      go_quiet ((go_at_call 6; exact Calls.quiet_of_same (same_any _ _)))
      clear c1 c2 c3 c4 c5
      go_wp2
      go_roundg (gk - 1)
      case measure => have := HK.out; omega
      case rel => exact ⟨k + 1, by have := HK.out; omega, by go_num, H1.out.drewN _⟩
    · obtain rfl : k = 64 := by have := HK.out; omega
      clear h1 HK hlt
      go_upto_if 206 with fail
      go_cut [205] from 205 to 206 (fun _ wd => wr = wd)
      case first =>
        go_wp2
        go_meet
        case rel => rfl
      case rest =>
        subst hcut
        refine use_hyp (by assumption) ?_
        exact tail34 b0 F I w _ ec B a c ev mm bb qq N G Pr x0 x1 x2 x3 x4 x5 d0 d1 d2 d3 d4 d5 d6 d7 d8 p0 p1 p2 p3 p4 p5 p6 p7 p8 n0 n1 n2 n3 n4 n5 n6 n7 n8 sc fo pe r0 r1 r2 r3 r4 r5 r6 r7 r8 L HEC HEV HQ HFT HLL H0 HM HBB HQQ HD H1 _ _ _ _ _ _ _ _ _ _ _ _ _ _ _ _ _ _ _ _ _ _ _ _ _ _ _ _ _ _ _ _ _ _ _ _ _ _ _ _ _ _ _ _ _ _ _ _ _ _ _ _ _ _ _ _ _ _ _ _ _ _ _ _ _ _ _ _ _ _ _ _ _ _ _ _ _ _ _ _ _ _ _ _ _ _ _ _ _ _ _ _ _ _ _ _ _ _ _ _ _ _ _ _ _ _ _ _ _ _ _ _ _ _ _ _ _ _ _ _ _ _ _ _ _ _ _ _ _ _ _ _ _ _ _ _ _ _ _ _ _ _ _ _ _ _ _ _ _ _ _ _ _ _ _ _ _ _ _ _ _ _ _ _ _ _ _ _ _ _ _ _ _ _ _ _ _ _ _ _ _ _ _ _ _ _ _ _ _ _ _ _ _ _ _ _ _ _ _ _ _ _ _ _ _ _ _ _ _ _ _ _ _ _ _ _ _ _ _ _ _ _ _ _ _ _ _ _ _ _ _ _ _ _ _ _ _ _ _ _ _ _ _ _ _ _ _ _ _ _ _ _ _ _ _ _ _ _ _ _ _ _ _ _ _ _ _ _ _ _ _ _ _ _ _ _ _ _ _ _ _ _ _ _ _ _ _ _ _ _ _ _ _ _ _ _ _ _ _ _ _ _ _ _ _ _ _ _ _ _ _ _ _ _ _ _ _ _ _ _ _ _ _ _ _ _ _ _ _ _ _ _ _ _ _ _ _ _ _ _ _ _ _ _ _ _ _ _ _ _ _ _ _ _ _ _ _ _ _ _ _ _ _ _ _ _ _ _ _ _ _ _ _ _ _ _ _ _ _ _ _ _ _ _ _ _ _ _ _ _ _ _ _ _ _ _ _ _ _ _ _
end Go.Proofs.YbulkdhacDoor
