/-
  The law from region 57 on: the leaves are tied.
-/
import Derived.Test.YbulkdhcgDoorLawS63
namespace Go.Proofs.YbulkdhcgDoor
open Go.RowKit

/-- as TQ, but of the leaves nothing. -/
structure TQ0 (d : TreeD) (w : World) : Prop where
  l0 : 0 < w.heap.size ∧ 0 ≠ d.bt ∧ 0 ≠ d.bL
  l1 : d.bt < w.heap.size
  l2 : d.bA < w.heap.size ∧ d.bA ≠ d.bt ∧ d.bA ≠ d.bL
  l3 : d.bc < w.heap.size ∧ d.bc ≠ d.bt ∧ d.bc ≠ d.bL
  l4 : d.b0 < w.heap.size ∧ d.b0 ≠ d.bt ∧ d.b0 ≠ d.bL
  l5 : d.bL < w.heap.size ∧ d.bL ≠ d.bt
  l7 : ∀ a, a < d.nA → d.bp a < w.heap.size ∧ d.bb a < w.heap.size ∧ d.bm a < w.heap.size ∧ d.bp a ≠ d.bt ∧ d.bb a ≠ d.bt ∧ d.bm a ≠ d.bt ∧ d.bp a ≠ d.bL ∧ d.bb a ≠ d.bL ∧ d.bm a ≠ d.bL
  actors : w.cell? ⟨d.bt, 12, none⟩ = some (.slice (some ⟨d.bA, 0, none⟩) d.nA d.capA)
  runs : w.cell? ⟨d.bt, 0, none⟩ = some (.slice (some ⟨d.bc, 0, none⟩) 1 d.c0)
  there : w.there d.bt 3 9
  chunk : w.cell? ⟨d.bc, 0, none⟩ = some (.slice (some ⟨d.b0, 0, none⟩) d.nR d.capR)
  nR : d.nR ≤ 4096
  nL : 1 ≤ d.v.nL
  tab : Tab w
  txt : ∀ a, a < d.nA → TextAt w d.bA (a * 9 + 2) (d.bp a) (d.bb a) (d.bcap a) (d.bm a) (d.mcap a) (d.tx a)
  ok : ∀ a, a < d.nA → (d.tx a).Ok
  y : ∀ a, a < d.nA → ∀ j, 0 ≤ (d.tx a).y j ∧ (d.tx a).y j ≤ 255
  xlt : ∀ x, x ∈ d.xs → x < d.nR ∧ d.ra x < d.nA ∧ d.rn x + d.rl x ≤ (d.tx (d.ra x)).n ∧ w.cell? ⟨d.b0, x * 18, none⟩ = some (.int .u32 (d.ra x : Nat)) ∧ w.cell? ⟨d.b0, x * 18 + 1, none⟩ = some (.int .u32 (d.rn x : Nat)) ∧ w.cell? ⟨d.b0, x * 18 + 2, none⟩ = some (.int .u32 (d.rl x : Nat))
  len : d.xs.length ≤ 4096
  nA : d.nA ≤ 4096
theorem TQ0.tq {d : TreeD} {w W : World} (h : TQ0 d w) (hx : XFr w W (fun k => k = d.bL)) (hl : LvAt W d.bL d.nl d.v) : TQ d W := by
  have hk := kept_bt hx
  have l : ∀ {k : Nat}, k < w.heap.size → k < W.heap.size := fun hk => Nat.lt_of_lt_of_le hk hx.size
  have c : ∀ {p : Addr} {v : Value}, p.block < w.heap.size ∧ p.block ≠ d.bL → w.cell? p = some v → W.cell? p = some v := fun hp hc => hk.cell (fun _ _ => hp) hc
  have hbt : W.heap[d.bt]? = w.heap[d.bt]? := hx.blk d.bt h.l1 (fun e => h.l5.2 e.symm)
  exact ⟨⟨l h.l0.1, h.l0.2.1⟩, l h.l1, ⟨l h.l2.1, h.l2.2.1⟩, ⟨l h.l3.1, h.l3.2.1⟩, ⟨l h.l4.1, h.l4.2.1⟩, ⟨l h.l5.1, h.l5.2⟩, fun a ha => ⟨l (h.l7 a ha).1, l (h.l7 a ha).2.1, l (h.l7 a ha).2.2.1, (h.l7 a ha).2.2.2.1, (h.l7 a ha).2.2.2.2.1, (h.l7 a ha).2.2.2.2.2.1⟩, (World.cell?_of_block (w := w) hbt).trans h.actors, (World.cell?_of_block (w := w) hbt).trans h.runs,
    fun j hj => ⟨by rw [World.cell?_of_block (w := w) hbt]; exact (h.there j hj).1, (World.frozen?_of_block (w := w) hbt).trans (h.there j hj).2⟩, c ⟨h.l3.1, h.l3.2.2⟩ h.chunk, h.nR, hl, h.nL, fun j hj => c ⟨h.l0.1, h.l0.2.2⟩ (h.tab j hj),
    fun a ha => (h.txt a ha).kept hk (fun _ _ => ⟨h.l2.1, h.l2.2.2⟩) (fun _ _ => ⟨(h.l7 a ha).1, (h.l7 a ha).2.2.2.2.2.2.1⟩) (fun _ _ => ⟨(h.l7 a ha).2.1, (h.l7 a ha).2.2.2.2.2.2.2.1⟩) (fun _ _ => ⟨(h.l7 a ha).2.2.1, (h.l7 a ha).2.2.2.2.2.2.2.2⟩), h.ok, h.y,
    fun x hx => by obtain ⟨a1, a2, a3, a4, a5, a6⟩ := h.xlt x hx; exact ⟨a1, a2, a3, c ⟨h.l4.1, h.l4.2.2⟩ a4, c ⟨h.l4.1, h.l4.2.2⟩ a5, c ⟨h.l4.1, h.l4.2.2⟩ a6⟩, h.len, h.nA⟩
/-- the leaves, while they are tied: those below j have their next. -/
structure LI (v : Lv) (bL j : Nat) (W wr : World) : Prop where
  num : ∀ k, 1 ≤ k → k ≤ v.nL → wr.cell? ⟨bL, k * 261 + 65, none⟩ = some (.int .i32 (v.cnt k : Nat))
  live : ∀ k, 1 ≤ k → k ≤ v.nL → ∃ z : Int, wr.cell? ⟨bL, k * 261 + 64, none⟩ = some (.int .u64 z)
  run : ∀ k, 1 ≤ k → k ≤ v.nL → ∀ i, i < v.cnt k → wr.cell? ⟨bL, k * 261 + i, none⟩ = some (.int .u32 (v.rn k i : Nat))
  next : ∀ k, 1 ≤ k → k ≤ v.nL → wr.cell? ⟨bL, k * 261 + 68, none⟩ = some (.int .u32 ((if k < j ∧ k < v.nL then k + 1 else 0 : Nat) : Int))
  frz : ∀ q, wr.frozen? ⟨bL, q, none⟩ = false
  fr : XFr W wr (fun k => k = bL)
theorem LI.skip {v : Lv} {bL j : Nat} {W wr : World} (h : LI v bL j W wr) (hj : v.nL ≤ j) : LI v bL (j + 1) W wr :=
  ⟨h.num, h.live, h.run, fun k h1 h2 => by
    rw [h.next k h1 h2]
    by_cases e : k < j ∧ k < v.nL
    · rw [if_pos e, if_pos (by omega)]
    · rw [if_neg e, if_neg (by omega)], h.frz, h.fr⟩
theorem LI.tie {v : Lv} {bL j : Nat} {W wr : World} (h : LI v bL j W wr) (hj1 : 1 ≤ j) (hj : j < v.nL) (hc : ∀ k, v.cnt k ≤ 64) : LI v bL (j + 1) W (wr.setCell ⟨bL, j * 261 + 68, none⟩ (.int .u32 ((j + 1 : Nat) : Int))) := by
  have hne : ∀ q, q ≠ j * 261 + 68 → (wr.setCell ⟨bL, j * 261 + 68, none⟩ (.int .u32 ((j + 1 : Nat) : Int))).cell? ⟨bL, q, none⟩ = wr.cell? ⟨bL, q, none⟩ := fun q hq => World.cell?_setCell_other _ _ _ _ (fun e => hq (congrArg Addr.off e).symm)
  refine ⟨fun k h1 h2 => by rw [hne _ (by omega)]; exact h.num k h1 h2, fun k h1 h2 => by rw [hne _ (by omega)]; exact h.live k h1 h2, fun k h1 h2 i hi => by rw [hne _ (by have := hc k; omega)]; exact h.run k h1 h2 i hi, fun k h1 h2 => ?_, fun q => by rw [World.frozen?_setCell]; exact h.frz q, h.fr.set bL _ _ (Or.inl rfl)⟩
  by_cases e : k = j
  · rw [e, World.cell?_setCell_same _ _ _ (h.next j hj1 (by omega)), if_pos (by omega)]
  · rw [hne _ (by omega), h.next k h1 h2]
    by_cases e2 : k < j ∧ k < v.nL
    · rw [if_pos e2, if_pos (by omega)]
    · rw [if_neg e2, if_neg (by omega)]
theorem LI.lives {v : Lv} {bL j i : Nat} {W wr : World} (h : LI v bL j W wr) (hi1 : 1 ≤ i) (hi : i ≤ v.nL) (hc : ∀ k, v.cnt k ≤ 64) (z : Int) : LI v bL j W (wr.setCell ⟨bL, i * 261 + 64, none⟩ (.int .u64 z)) := by
  have hne : ∀ q, q ≠ i * 261 + 64 → (wr.setCell ⟨bL, i * 261 + 64, none⟩ (.int .u64 z)).cell? ⟨bL, q, none⟩ = wr.cell? ⟨bL, q, none⟩ := fun q hq => World.cell?_setCell_other _ _ _ _ (fun e => hq (congrArg Addr.off e).symm)
  refine ⟨fun k h1 h2 => by rw [hne _ (by omega)]; exact h.num k h1 h2, fun k h1 h2 => ?_, fun k h1 h2 q hq => by rw [hne _ (by have := hc k; omega)]; exact h.run k h1 h2 q hq, fun k h1 h2 => by rw [hne _ (by omega)]; exact h.next k h1 h2, fun q => by rw [World.frozen?_setCell]; exact h.frz q, h.fr.set bL _ _ (Or.inl rfl)⟩
  by_cases e : k = i
  · obtain ⟨z0, hz0⟩ := h.live i hi1 hi
    exact ⟨z, by rw [e]; exact World.cell?_setCell_same _ _ _ hz0⟩
  · rw [hne _ (by omega)]; exact h.live k h1 h2
theorem LI.at' {v : Lv} {bL nl : Nat} {W wr : World} (h : LI v bL (v.nL + 1) W wr) (hl : nl = v.nL + 1) (hs : v.nL ≤ 4096) (hc : ∀ k, v.cnt k ≤ 64) : LvAt wr bL nl v :=
  ⟨by omega, by omega, hc, h.num, h.live, h.run, fun k h1 h2 => by
    rw [h.next k h1 h2]
    by_cases e : k < v.nL
    · rw [if_pos e, if_pos (by omega)]
    · rw [if_neg e, if_neg (by omega)]⟩
noncomputable def rest57 : Code := (Ybad.f3.body.bind (restFrom 57)).getD .skip
set_option maxRecDepth 100000 in
set_option maxHeartbeats 8000000 in
theorem s57 (I : Inp) (hsm : I.Sm) (w0 W : World) (hI : I.At w0) (d : TreeD) (hT : TQ0 d W) (hLI : LI d.v d.bL 1 W W) (hnl : d.nl = d.v.nL + 1) (hnL : d.v.nL ≤ 4096) (hcnt : ∀ k, d.v.cnt k ≤ 64) (hb : Below w0.heap.size w0 W) (hbt : w0.heap.size ≤ d.bt) (hbL : w0.heap.size ≤ d.bL) (bC cC bra brn brl : Nat) (bs cc : Nat → Nat)
    (hra : ∀ i, i < I.n1 → W.cell? ⟨bra, i, none⟩ = some (.int .u32 (I.ra i : Nat))) (hrn : ∀ i, i < I.n1 → W.cell? ⟨brn, i, none⟩ = some (.int .u32 (I.rn i : Nat))) (hrl : ∀ i, i < I.n1 → W.cell? ⟨brl, i, none⟩ = some (.int .u32 (I.rl i : Nat)))
    (hchars : ∀ a, a < I.nA → W.cell? ⟨bC, a, none⟩ = some (.slice (some ⟨bs a, 0, none⟩) (I.tot a) (cc a))) (hchr : ∀ a, a < I.nA → ∀ j, j < I.tot a → W.cell? ⟨bs a, j, none⟩ = some (.string (st ((I.cs a).getD j []))))
    (hlt : bC < W.heap.size ∧ bra < W.heap.size ∧ brn < W.heap.size ∧ brl < W.heap.size) (hne : bC ≠ d.bt ∧ bra ≠ d.bt ∧ brn ≠ d.bt ∧ brl ≠ d.bt ∧ ∀ a, a < I.nA → bs a ≠ d.bt) (hnL2 : bC ≠ d.bL ∧ bra ≠ d.bL ∧ brn ≠ d.bL ∧ brl ≠ d.bL ∧ ∀ a, a < I.nA → bs a ≠ d.bL) (hdn : d.nA = I.nA) (hdo : ∀ bi ci bd cd, (TreeD.out { d with bi := bi, ci := ci, ins := I.ins, bd := bd, cd := cd, S := I.D I.n5 } d.xs) = I.want (I.D I.n5) I.n1)
    {v0 v1 v2 v6 v7 v8 v9 v10 v11 v13 v14 v15 v19 v20 v21 v22 v23 v24 v25 v26 v32 v33 v34 v35 v36 v37 v38 v39 v40 v41 v42 v43 v44 v45 v46 v47 v48 v49 v50 v51 v52 v53 v54 v55 v56 v57 v58 v59 v60 v61 v62 v63 v64 v65 v66 v67 v68 v69 v70 v71 v72 v73 v74 v75 v76 v77 v78 v79 v80 v81 v82 v83 v84 v85 v86 v87 v88 v89 v90 v91 v92 v93 v94 v95 v96 v97 v98 v99 v100 v101 v102 v103 v104 v105 v106 v107 v108 v109 v110 v111 v112 v113 v114 v115 v116 v117 v118 v119 v120 v121 v122 v123 v124 v125 v126 v127 v128 v129 v130 v131 v132 v133 v134 v135 v136 v137 v138 v139 v140 v141 v142 v143 v144 v145 v146 v147 v148 v149 v150 v151 v152 v153 v154 v155 v156 v157 v158 v159 v160 v161 v162 v163 v164 v165 v166 v167 v168 v169 v170 v171 v172 v173 v174 v175 v176 v177 v178 v179 v180 v181 v182 v183 v184 v185 v186 v187 v188 v189 v190 v191 v192 v193 v194 v195 v196 v197 v198 v199 v200 v201 v202 v203 v204 v205 v206 v207 v208 v209 v210 v211 v212 v213 v214 v215 v216 v217 v218 v219 v220 v221 v222 v223 v224 v225 v226 v227 v228 v229 v230 v231 v232 v233 v234 v235 v236 v237 v238 v239 v240 v241 v242 v243 v244 v245 v246 v247 v248 v249 v250 v251 v252 v253 v254 v255 v256 v257 v258 v259 v260 v261 v262 v263 v264 v265 v266 v267 v268 v269 v270 v271 v272 v273 v274 v275 v276 v277 v278 v279 v280 v281 v282 v283 v284 v285 v286 v287 v288 v289 v290 v291 v292 v293 v294 v295 v296 v297 v298 v299 v300 v301 v302 v303 v304 v305 v306 v307 v308 v309 v310 v311 v312 v313 v314 v315 v316 v317 v318 v319 v320 v321 v322 v323 v324 v325 v326 v327 v328 v329 v330 v331 v332 v333 v334 v335 v336 v337 v338 v339 v340 v341 v342 v343 v344 v345 v346 v347 v348 v349 v350 v351 v352 v353 v354 v355 v356 v357 v358 v359 v360 v361 v362 v363 v364 v365 v366 v367 v368 v369 v370 v371 v372 v373 v374 v375 v376 v377 v378 v379 v380 v381 v382 v383 v384 v385 v386 v387 v388 v389 v390 v391 v392 v393 v394 v395 v396 v397 v398 v399 v400 v401 v402 v403 v404 v405 v406 v407 v408 v409 v410 v411 v412 v413 v414 v415 v416 v417 v418 v419 v420 v421 v422 v423 v424 v425 v426 v427 v428 v429 v430 v431 v432 v433 v434 v435 v436 v437 v438 v439 v440 v441 v442 v443 v444 v445 v446 v447 v448 v449 v450 v451 v452 v453 v454 v455 v456 v457 v458 v459 v460 v461 v462 v463 v464 v465 v466 : Value} :
    Code.wp Ybad.prog rest57 (bodyPost Ybad.prog Ybad.f3 (lawPost w0)) ⟨#[v0, v1, v2, .int .u64 (I.lv : Nat), .slice I.a4 I.n4 I.k4, .slice I.a5 I.n5 I.k5, v6, v7, v8, v9, v10, v11, .bool false, v13, v14, v15, .int .i64 (d.nA : Nat), .slice (some ⟨bC, 0, none⟩) d.nA cC, .pointer (some ⟨d.bt, 0, none⟩), v19, v20, v21, v22, v23, v24, v25, v26, .int .i64 (d.v.nL : Nat), .slice (some ⟨d.bL, 0, none⟩) d.nl d.capL, .slice (some ⟨bra, 0, none⟩) I.n1 I.n1, .slice (some ⟨brn, 0, none⟩) I.n1 I.n1, .slice (some ⟨brl, 0, none⟩) I.n1 I.n1, v32, v33, v34, v35, v36, v37, v38, v39, v40, v41, v42, v43, v44, v45, v46, v47, v48, v49, v50, v51, v52, v53, v54, v55, v56, v57, v58, v59, v60, v61, v62, v63, v64, v65, v66, v67, v68, v69, v70, v71, v72, v73, v74, v75, v76, v77, v78, v79, v80, v81, v82, v83, v84, v85, v86, v87, v88, v89, v90, v91, v92, v93, v94, v95, v96, v97, v98, v99, v100, v101, v102, v103, v104, v105, v106, v107, v108, v109, v110, v111, v112, v113, v114, v115, v116, v117, v118, v119, v120, v121, v122, v123, v124, v125, v126, v127, v128, v129, v130, v131, v132, v133, v134, v135, v136, v137, v138, v139, v140, v141, v142, v143, v144, v145, v146, v147, v148, v149, v150, v151, v152, v153, v154, v155, v156, v157, v158, v159, v160, v161, v162, v163, v164, v165, v166, v167, v168, v169, v170, v171, v172, v173, v174, v175, v176, v177, v178, v179, v180, v181, v182, v183, v184, v185, v186, v187, v188, v189, v190, v191, v192, v193, v194, v195, v196, v197, v198, v199, v200, v201, v202, v203, v204, v205, v206, v207, v208, v209, v210, v211, v212, v213, v214, v215, v216, v217, v218, v219, v220, v221, v222, v223, v224, v225, v226, v227, v228, v229, v230, v231, v232, v233, v234, v235, v236, v237, v238, v239, v240, v241, v242, v243, v244, v245, v246, v247, v248, v249, v250, v251, v252, v253, v254, v255, v256, v257, v258, v259, v260, v261, v262, v263, v264, v265, v266, v267, v268, v269, v270, v271, v272, v273, v274, v275, v276, v277, v278, v279, v280, v281, v282, v283, v284, v285, v286, v287, v288, v289, v290, v291, v292, v293, v294, v295, v296, v297, v298, v299, v300, v301, v302, v303, v304, v305, v306, v307, v308, v309, v310, v311, v312, v313, v314, v315, v316, v317, v318, v319, v320, v321, v322, v323, v324, v325, v326, v327, v328, v329, v330, v331, v332, v333, v334, v335, v336, v337, v338, v339, v340, v341, v342, v343, v344, v345, v346, v347, v348, v349, v350, v351, v352, v353, v354, v355, v356, v357, v358, v359, v360, v361, v362, v363, v364, v365, v366, v367, v368, v369, v370, v371, v372, v373, v374, v375, v376, v377, v378, v379, v380, v381, v382, v383, v384, v385, v386, v387, v388, v389, v390, v391, v392, v393, v394, v395, v396, v397, v398, v399, v400, v401, v402, v403, v404, v405, v406, v407, v408, v409, v410, v411, v412, v413, v414, v415, v416, v417, v418, v419, v420, v421, v422, v423, v424, v425, v426, v427, v428, v429, v430, v431, v432, v433, v434, v435, v436, v437, v438, v439, v440, v441, v442, v443, v444, v445, v446, v447, v448, v449, v450, v451, v452, v453, v454, v455, v456, v457, v458, v459, v460, v461, v462, v463, v464, v465, v466], []⟩ W := by
  have HT : Hid (TQ0 d W) := hT
  have HLI : Hid (LI d.v d.bL 1 W W) := hLI
  have HNL : Hid (d.nl = d.v.nL + 1) := hnl
  have HNL2 : Hid (d.v.nL ≤ 4096) := hnL
  have HCNT : Hid (∀ k, d.v.cnt k ≤ 64) := hcnt
  have HI : Hid (I.At w0) := hI
  have HB : Hid (Below w0.heap.size w0 W) := hb
  have HBT : Hid (w0.heap.size ≤ d.bt) := hbt
  have HBL : Hid (w0.heap.size ≤ d.bL) := hbL
  have HRA : Hid (∀ i, i < I.n1 → W.cell? ⟨bra, i, none⟩ = some (.int .u32 (I.ra i : Nat))) := hra
  have HRN : Hid (∀ i, i < I.n1 → W.cell? ⟨brn, i, none⟩ = some (.int .u32 (I.rn i : Nat))) := hrn
  have HRL : Hid (∀ i, i < I.n1 → W.cell? ⟨brl, i, none⟩ = some (.int .u32 (I.rl i : Nat))) := hrl
  have HCH : Hid (∀ a, a < I.nA → W.cell? ⟨bC, a, none⟩ = some (.slice (some ⟨bs a, 0, none⟩) (I.tot a) (cc a))) := hchars
  have HCR : Hid (∀ a, a < I.nA → ∀ j, j < I.tot a → W.cell? ⟨bs a, j, none⟩ = some (.string (st ((I.cs a).getD j [])))) := hchr
  have HL : Hid (bC < W.heap.size ∧ bra < W.heap.size ∧ brn < W.heap.size ∧ brl < W.heap.size) := hlt
  have HNE : Hid (bC ≠ d.bt ∧ bra ≠ d.bt ∧ brn ≠ d.bt ∧ brl ≠ d.bt ∧ ∀ a, a < I.nA → bs a ≠ d.bt) := hne
  have HNE2 : Hid (bC ≠ d.bL ∧ bra ≠ d.bL ∧ brn ≠ d.bL ∧ brl ≠ d.bL ∧ ∀ a, a < I.nA → bs a ≠ d.bL) := hnL2
  have HN : Hid (d.nA = I.nA) := hdn
  have HO : Hid (∀ bi ci bd cd, (TreeD.out { d with bi := bi, ci := ci, ins := I.ins, bd := bd, cd := cd, S := I.D I.n5 } d.xs) = I.want (I.D I.n5) I.n1) := hdo
  have HSM : Hid I.Sm := hsm
  have hlv := hI.lv
  clear hT hLI hnl hI hb hbt hbL hra hrn hrl hchars hchr hlt hne hnL2 hdn hdo hsm hcnt
  conv => arg 2; whnf
  conv => arg 4; dsimp only
  go_wp2
  go_loopw [39] (fun x wr => ∃ j : Nat, x = .int .i64 j ∧ 1 ≤ j ∧ j ≤ d.v.nL + 1 ∧ LI d.v d.bL j W wr) (fun x _ => d.v.nL + 1 - (intOf x).toNat)
  case atStart => exact ⟨1, rfl, Nat.le_refl _, by omega, HLI.out⟩
  case round =>
    rename_i Kn hKn
    have HKN : Hid (∀ a w, Code.wp Ybad.prog rest63 (bodyPost Ybad.prog Ybad.f3 (lawPost w0)) a w → Kn a w) := hKn
    clear hKn HLI
    obtain ⟨j, rfl, hj1, hj2, hg⟩ := hrel
    obtain ⟨wo, rfl⟩ : ∃ wo, wo = wr := ⟨_, rfl⟩
    have HG : Hid (LI d.v d.bL j W wo) := hg
    clear hg
    by_cases h : j ≤ d.v.nL
    · have e1 : (j : Int) ≤ (d.v.nL : Int) := by omega
      have hnl3 : j < d.nl := by rw [HNL.out]; omega
      have hc64 := HCNT.out j
      obtain ⟨cn, hcn⟩ : ∃ cn, cn = d.v.cnt j := ⟨_, rfl⟩
      have c1 := HG.out.num j hj1 h
      rw [← hcn] at c1 hc64
      have f1 := HG.out.frz (j * 261 + 64)
      have f2 := HG.out.frz (j * 261 + 68)
      by_cases h2 : j < d.v.nL
      · have e2 : (j : Int) < (d.v.nL : Int) := by omega
        have c2 := HG.out.next j hj1 h
        have HG2 : Hid (LI d.v d.bL (j + 1) W (wo.setCell ⟨d.bL, j * 261 + 68, none⟩ (.int .u32 ((j + 1 : Nat) : Int)))) := HG.out.tie hj1 h2 HCNT.out
        obtain ⟨z0, c3⟩ := HG.out.live j hj1 h
        have HP : Hid (∀ z, LI d.v d.bL (j + 1) W ((wo.setCell ⟨d.bL, j * 261 + 68, none⟩ (.int .u32 ((j + 1 : Nat) : Int))).setCell ⟨d.bL, j * 261 + 64, none⟩ (.int .u64 z))) := fun z => HG2.out.lives hj1 h HCNT.out z
        clear HG2 hcn
        go_wp2
        exact ⟨⟨j + 1, by go_num, by omega, by omega, HP.out _⟩, by simp [intOf]; go_num⟩
      · have e2 : ¬ (j : Int) < (d.v.nL : Int) := by omega
        have HG2 : Hid (LI d.v d.bL (j + 1) W wo) := HG.out.skip (by omega)
        obtain ⟨z0, c3⟩ := HG.out.live j hj1 h
        have HP : Hid (∀ z, LI d.v d.bL (j + 1) W (wo.setCell ⟨d.bL, j * 261 + 64, none⟩ (.int .u64 z))) := fun z => HG2.out.lives hj1 h HCNT.out z
        clear HG2 hcn
        go_wp2
        exact ⟨⟨j + 1, by go_num, by omega, by omega, HP.out _⟩, by simp [intOf]; go_num⟩
    · have e1 : ¬ (j : Int) ≤ (d.v.nL : Int) := by omega
      go_wp2
      have en : j = d.v.nL + 1 := by omega
      rw [en] at HG
      have hx := HG.out.fr
      have hkb := kept_bt hx
      have hc : ∀ {p : Addr} {u : Value}, p.block < W.heap.size ∧ p.block ≠ d.bL → W.cell? p = some u → wo.cell? p = some u := fun hp hcc => hkb.cell (fun _ _ => hp) hcc
      have hlb := HL.out
      have hnb := HNE2.out
      refine HKN.out _ _ (s63 I HSM.out w0 wo HI.out d (HT.out.tq hx (HG.out.at' HNL.out HNL2.out HCNT.out)) (HB.out.trans ⟨hx.os, hx.tape, hx.output, hx.size, fun k hk => hx.blk k (Nat.lt_of_lt_of_le hk HB.out.size) (fun e => by have h5 := HBL.out; omega)⟩) HBT.out bC cC bra brn brl bs cc
        (fun i hi => hc ⟨hlb.2.1, hnb.2.1⟩ (HRA.out i hi)) (fun i hi => hc ⟨hlb.2.2.1, hnb.2.2.1⟩ (HRN.out i hi)) (fun i hi => hc ⟨hlb.2.2.2, hnb.2.2.2.1⟩ (HRL.out i hi)) (fun a ha => hc ⟨hlb.1, hnb.1⟩ (HCH.out a ha)) (fun a ha j hj => hc ⟨World.block_lt_of_cell? W _ (HCR.out a ha j hj), hnb.2.2.2.2 a ha⟩ (HCR.out a ha j hj))
        ⟨Nat.lt_of_lt_of_le hlb.1 hx.size, Nat.lt_of_lt_of_le hlb.2.1 hx.size, Nat.lt_of_lt_of_le hlb.2.2.1 hx.size, Nat.lt_of_lt_of_le hlb.2.2.2 hx.size⟩ HNE.out HN.out HO.out)
end Go.Proofs.YbulkdhcgDoor
