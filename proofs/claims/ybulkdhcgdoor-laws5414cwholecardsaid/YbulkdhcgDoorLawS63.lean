/-
  The law from region 63 on: the order is stored; inserted.
-/
import Derived.Test.YbulkdhcgDoorLawS71
namespace Go.Proofs.YbulkdhcgDoor
open Go.RowKit

/-- all of TreeD.At but the sets, inserted and the order's own cells. -/
structure TQ (d : TreeD) (w : World) : Prop where
  l0 : 0 < w.heap.size ∧ 0 ≠ d.bt
  l1 : d.bt < w.heap.size
  l2 : d.bA < w.heap.size ∧ d.bA ≠ d.bt
  l3 : d.bc < w.heap.size ∧ d.bc ≠ d.bt
  l4 : d.b0 < w.heap.size ∧ d.b0 ≠ d.bt
  l5 : d.bL < w.heap.size ∧ d.bL ≠ d.bt
  l7 : ∀ a, a < d.nA → d.bp a < w.heap.size ∧ d.bb a < w.heap.size ∧ d.bm a < w.heap.size ∧ d.bp a ≠ d.bt ∧ d.bb a ≠ d.bt ∧ d.bm a ≠ d.bt
  actors : w.cell? ⟨d.bt, 12, none⟩ = some (.slice (some ⟨d.bA, 0, none⟩) d.nA d.capA)
  runs : w.cell? ⟨d.bt, 0, none⟩ = some (.slice (some ⟨d.bc, 0, none⟩) 1 d.c0)
  there : w.there d.bt 3 9
  chunk : w.cell? ⟨d.bc, 0, none⟩ = some (.slice (some ⟨d.b0, 0, none⟩) d.nR d.capR)
  nR : d.nR ≤ 4096
  lv : LvAt w d.bL d.nl d.v
  nL : 1 ≤ d.v.nL
  tab : Tab w
  txt : ∀ a, a < d.nA → TextAt w d.bA (a * 9 + 2) (d.bp a) (d.bb a) (d.bcap a) (d.bm a) (d.mcap a) (d.tx a)
  ok : ∀ a, a < d.nA → (d.tx a).Ok
  y : ∀ a, a < d.nA → ∀ j, 0 ≤ (d.tx a).y j ∧ (d.tx a).y j ≤ 255
  xlt : ∀ x, x ∈ d.xs → x < d.nR ∧ d.ra x < d.nA ∧ d.rn x + d.rl x ≤ (d.tx (d.ra x)).n ∧ w.cell? ⟨d.b0, x * 18, none⟩ = some (.int .u32 (d.ra x : Nat)) ∧ w.cell? ⟨d.b0, x * 18 + 1, none⟩ = some (.int .u32 (d.rn x : Nat)) ∧ w.cell? ⟨d.b0, x * 18 + 2, none⟩ = some (.int .u32 (d.rl x : Nat))
  len : d.xs.length ≤ 4096
  nA : d.nA ≤ 4096
theorem kept_bt {w W : World} {bt : Nat} (h : XFr w W (fun k => k = bt)) : Kept (fun k _ => k < w.heap.size ∧ k ≠ bt) w W := ⟨h.os, h.tape, h.output, h.size, fun k _ ho hk => (h.blk k hk.1 hk.2).trans ho⟩
theorem TQ.tp {d : TreeD} {w W : World} (h : TQ d w) (hx : XFr w W (fun k => k = d.bt)) (ha : W.cell? ⟨d.bt, 12, none⟩ = w.cell? ⟨d.bt, 12, none⟩) (hr : W.cell? ⟨d.bt, 0, none⟩ = w.cell? ⟨d.bt, 0, none⟩) (hl : W.cell? ⟨d.bt, 3, none⟩ = some (.slice (some ⟨d.bL, 0, none⟩) d.nl d.capL)) (bi ci : Nat) (hbi : bi < W.heap.size) (ins : Nat → Nat) (hi : ∀ a, a < d.nA → W.cell? ⟨bi, a, none⟩ = some (.int .u32 (ins a : Nat))) :
    TP { d with bi := bi, ci := ci, ins := ins } W.heap.size W := by
  have hk := kept_bt hx
  have l : ∀ {k : Nat}, k < w.heap.size → k < W.heap.size := fun hk => Nat.lt_of_lt_of_le hk hx.size
  have c : ∀ {p : Addr} {v : Value}, p.block < w.heap.size ∧ p.block ≠ d.bt → w.cell? p = some v → W.cell? p = some v := fun hp hc => hk.cell (fun _ _ => hp) hc
  exact ⟨l h.l0.1, l h.l1, l h.l2.1, l h.l3.1, l h.l4.1, l h.l5.1, hbi, fun a ha => ⟨l (h.l7 a ha).1, l (h.l7 a ha).2.1, l (h.l7 a ha).2.2.1⟩, ha.trans h.actors, hr.trans h.runs, c h.l3 h.chunk, h.nR, hl, h.lv.kept hk (fun _ _ => h.l5), h.nL, fun j hj => c h.l0 (h.tab j hj),
    fun a ha => (h.txt a ha).kept hk (fun _ _ => h.l2) (fun _ _ => ⟨(h.l7 a ha).1, (h.l7 a ha).2.2.2.1⟩) (fun _ _ => ⟨(h.l7 a ha).2.1, (h.l7 a ha).2.2.2.2.1⟩) (fun _ _ => ⟨(h.l7 a ha).2.2.1, (h.l7 a ha).2.2.2.2.2⟩), h.ok, h.y, hi,
    fun x hx => by obtain ⟨a1, a2, a3, a4, a5, a6⟩ := h.xlt x hx; exact ⟨a1, a2, a3, c h.l4 a4, c h.l4 a5, c h.l4 a6⟩, h.len, h.nA⟩
theorem info149 : (Ybad.prog.info? 149).map (fun i => (i.zero.isSome, decide (i.bytes ≤ 1000000))) = some (true, true) := by kernel_rfl
theorem make149 : ∃ Z : Array Value, ∀ w : World, (Instr.makeSlice 35 (.int .i64 1) (.int .i64 1)).run Ybad.prog w = .ok (.slice (some ⟨w.heap.size, 0, none⟩) 1 1) (w.alloc (.cells Z 149)) := by
  obtain ⟨i, hi, hzz⟩ := Option.map_eq_some_iff.1 info149
  simp only [Prod.mk.injEq, decide_eq_true_eq] at hzz
  obtain ⟨z, hz⟩ := Option.isSome_iff_exists.1 hzz.1
  exact ⟨_, fun w => run_make (P := Ybad.prog) w 35 149 i z Ybad.underlying35 hi hz .i64 .i64 1 1 (by omega) (by omega) (by have := hzz.2; omega) (by omega)⟩
theorem size41 : (Ybad.prog.info? 41).map (·.size) = some 9 := by kernel_rfl

/-- inserted, as far as it is filled. -/
structure NI (I : Inp) (W : World) (bi n : Nat) (wr : World) : Prop where
  done : ∀ a, a < n → wr.cell? ⟨bi, a, none⟩ = some (.int .u32 (I.ins a : Nat))
  rest : ∀ a, n ≤ a → a < I.nA → wr.cell? ⟨bi, a, none⟩ = some (.int .u32 0)
  frz : ∀ a, wr.frozen? ⟨bi, a, none⟩ = false
  fr : XFr W wr (fun k => k = bi)
  lt : bi < W.heap.size
theorem NI.put {I : Inp} {W : World} {bi n : Nat} {wr : World} (h : NI I W bi n wr) (hn : n < I.nA) {z : Nat} (hz : z = I.ins n) : NI I W bi (n + 1) (wr.setCell ⟨bi, n, none⟩ (.int .u32 (z : Nat))) := by
  have hne : ∀ j, j ≠ n → (wr.setCell ⟨bi, n, none⟩ (.int .u32 (z : Nat))).cell? ⟨bi, j, none⟩ = wr.cell? ⟨bi, j, none⟩ := fun j hj => World.cell?_setCell_other _ _ _ _ (fun e => hj (by cases e; rfl))
  refine ⟨fun a ha => ?_, fun a h1 h2 => ?_, fun a => by rw [World.frozen?_setCell]; exact h.frz a, h.fr.set bi n _ (Or.inl rfl), h.lt⟩
  · by_cases e : a = n
    · rw [e, World.cell?_setCell_same _ _ _ (h.rest n (Nat.le_refl _) hn), hz]
    · rw [hne a e]; exact h.done a (by omega)
  · rw [hne a (by omega)]; exact h.rest a (by omega) h2
noncomputable def rest63 : Code := (Ybad.f3.body.bind (restFrom 63)).getD .skip
set_option maxRecDepth 100000 in
set_option maxHeartbeats 8000000 in
theorem s63 (I : Inp) (hsm : I.Sm) (w0 W : World) (hI : I.At w0) (d : TreeD) (hT : TQ d W) (hb : Below w0.heap.size w0 W) (hbt : w0.heap.size ≤ d.bt) (bC cC bra brn brl : Nat) (bs cc : Nat → Nat)
    (hra : ∀ i, i < I.n1 → W.cell? ⟨bra, i, none⟩ = some (.int .u32 (I.ra i : Nat))) (hrn : ∀ i, i < I.n1 → W.cell? ⟨brn, i, none⟩ = some (.int .u32 (I.rn i : Nat))) (hrl : ∀ i, i < I.n1 → W.cell? ⟨brl, i, none⟩ = some (.int .u32 (I.rl i : Nat)))
    (hchars : ∀ a, a < I.nA → W.cell? ⟨bC, a, none⟩ = some (.slice (some ⟨bs a, 0, none⟩) (I.tot a) (cc a))) (hchr : ∀ a, a < I.nA → ∀ j, j < I.tot a → W.cell? ⟨bs a, j, none⟩ = some (.string (st ((I.cs a).getD j []))))
    (hlt : bC < W.heap.size ∧ bra < W.heap.size ∧ brn < W.heap.size ∧ brl < W.heap.size) (hne : bC ≠ d.bt ∧ bra ≠ d.bt ∧ brn ≠ d.bt ∧ brl ≠ d.bt ∧ ∀ a, a < I.nA → bs a ≠ d.bt) (hdn : d.nA = I.nA) (hdo : ∀ bi ci bd cd, (TreeD.out { d with bi := bi, ci := ci, ins := I.ins, bd := bd, cd := cd, S := I.D I.n5 } d.xs) = I.want (I.D I.n5) I.n1)
    {v0 v1 v2 v3 v6 v7 v8 v9 v10 v11 v13 v14 v15 v19 v20 v21 v22 v23 v24 v25 v26 v27 v32 v33 v34 v35 v36 v37 v38 v39 v40 v41 v42 v43 v44 v45 v46 v47 v48 v49 v50 v51 v52 v53 v54 v55 v56 v57 v58 v59 v60 v61 v62 v63 v64 v65 v66 v67 v68 v69 v70 v71 v72 v73 v74 v75 v76 v77 v78 v79 v80 v81 v82 v83 v84 v85 v86 v87 v88 v89 v90 v91 v92 v93 v94 v95 v96 v97 v98 v99 v100 v101 v102 v103 v104 v105 v106 v107 v108 v109 v110 v111 v112 v113 v114 v115 v116 v117 v118 v119 v120 v121 v122 v123 v124 v125 v126 v127 v128 v129 v130 v131 v132 v133 v134 v135 v136 v137 v138 v139 v140 v141 v142 v143 v144 v145 v146 v147 v148 v149 v150 v151 v152 v153 v154 v155 v156 v157 v158 v159 v160 v161 v162 v163 v164 v165 v166 v167 v168 v169 v170 v171 v172 v173 v174 v175 v176 v177 v178 v179 v180 v181 v182 v183 v184 v185 v186 v187 v188 v189 v190 v191 v192 v193 v194 v195 v196 v197 v198 v199 v200 v201 v202 v203 v204 v205 v206 v207 v208 v209 v210 v211 v212 v213 v214 v215 v216 v217 v218 v219 v220 v221 v222 v223 v224 v225 v226 v227 v228 v229 v230 v231 v232 v233 v234 v235 v236 v237 v238 v239 v240 v241 v242 v243 v244 v245 v246 v247 v248 v249 v250 v251 v252 v253 v254 v255 v256 v257 v258 v259 v260 v261 v262 v263 v264 v265 v266 v267 v268 v269 v270 v271 v272 v273 v274 v275 v276 v277 v278 v279 v280 v281 v282 v283 v284 v285 v286 v287 v288 v289 v290 v291 v292 v293 v294 v295 v296 v297 v298 v299 v300 v301 v302 v303 v304 v305 v306 v307 v308 v309 v310 v311 v312 v313 v314 v315 v316 v317 v318 v319 v320 v321 v322 v323 v324 v325 v326 v327 v328 v329 v330 v331 v332 v333 v334 v335 v336 v337 v338 v339 v340 v341 v342 v343 v344 v345 v346 v347 v348 v349 v350 v351 v352 v353 v354 v355 v356 v357 v358 v359 v360 v361 v362 v363 v364 v365 v366 v367 v368 v369 v370 v371 v372 v373 v374 v375 v376 v377 v378 v379 v380 v381 v382 v383 v384 v385 v386 v387 v388 v389 v390 v391 v392 v393 v394 v395 v396 v397 v398 v399 v400 v401 v402 v403 v404 v405 v406 v407 v408 v409 v410 v411 v412 v413 v414 v415 v416 v417 v418 v419 v420 v421 v422 v423 v424 v425 v426 v427 v428 v429 v430 v431 v432 v433 v434 v435 v436 v437 v438 v439 v440 v441 v442 v443 v444 v445 v446 v447 v448 v449 v450 v451 v452 v453 v454 v455 v456 v457 v458 v459 v460 v461 v462 v463 v464 v465 v466 : Value} :
    Code.wp Ybad.prog rest63 (bodyPost Ybad.prog Ybad.f3 (lawPost w0)) ⟨#[v0, v1, v2, v3, .slice I.a4 I.n4 I.k4, .slice I.a5 I.n5 I.k5, v6, v7, v8, v9, v10, v11, .bool false, v13, v14, v15, .int .i64 (d.nA : Nat), .slice (some ⟨bC, 0, none⟩) d.nA cC, .pointer (some ⟨d.bt, 0, none⟩), v19, v20, v21, v22, v23, v24, v25, v26, v27, .slice (some ⟨d.bL, 0, none⟩) d.nl d.capL, .slice (some ⟨bra, 0, none⟩) I.n1 I.n1, .slice (some ⟨brn, 0, none⟩) I.n1 I.n1, .slice (some ⟨brl, 0, none⟩) I.n1 I.n1, v32, v33, v34, v35, v36, v37, v38, v39, v40, v41, v42, v43, v44, v45, v46, v47, v48, v49, v50, v51, v52, v53, v54, v55, v56, v57, v58, v59, v60, v61, v62, v63, v64, v65, v66, v67, v68, v69, v70, v71, v72, v73, v74, v75, v76, v77, v78, v79, v80, v81, v82, v83, v84, v85, v86, v87, v88, v89, v90, v91, v92, v93, v94, v95, v96, v97, v98, v99, v100, v101, v102, v103, v104, v105, v106, v107, v108, v109, v110, v111, v112, v113, v114, v115, v116, v117, v118, v119, v120, v121, v122, v123, v124, v125, v126, v127, v128, v129, v130, v131, v132, v133, v134, v135, v136, v137, v138, v139, v140, v141, v142, v143, v144, v145, v146, v147, v148, v149, v150, v151, v152, v153, v154, v155, v156, v157, v158, v159, v160, v161, v162, v163, v164, v165, v166, v167, v168, v169, v170, v171, v172, v173, v174, v175, v176, v177, v178, v179, v180, v181, v182, v183, v184, v185, v186, v187, v188, v189, v190, v191, v192, v193, v194, v195, v196, v197, v198, v199, v200, v201, v202, v203, v204, v205, v206, v207, v208, v209, v210, v211, v212, v213, v214, v215, v216, v217, v218, v219, v220, v221, v222, v223, v224, v225, v226, v227, v228, v229, v230, v231, v232, v233, v234, v235, v236, v237, v238, v239, v240, v241, v242, v243, v244, v245, v246, v247, v248, v249, v250, v251, v252, v253, v254, v255, v256, v257, v258, v259, v260, v261, v262, v263, v264, v265, v266, v267, v268, v269, v270, v271, v272, v273, v274, v275, v276, v277, v278, v279, v280, v281, v282, v283, v284, v285, v286, v287, v288, v289, v290, v291, v292, v293, v294, v295, v296, v297, v298, v299, v300, v301, v302, v303, v304, v305, v306, v307, v308, v309, v310, v311, v312, v313, v314, v315, v316, v317, v318, v319, v320, v321, v322, v323, v324, v325, v326, v327, v328, v329, v330, v331, v332, v333, v334, v335, v336, v337, v338, v339, v340, v341, v342, v343, v344, v345, v346, v347, v348, v349, v350, v351, v352, v353, v354, v355, v356, v357, v358, v359, v360, v361, v362, v363, v364, v365, v366, v367, v368, v369, v370, v371, v372, v373, v374, v375, v376, v377, v378, v379, v380, v381, v382, v383, v384, v385, v386, v387, v388, v389, v390, v391, v392, v393, v394, v395, v396, v397, v398, v399, v400, v401, v402, v403, v404, v405, v406, v407, v408, v409, v410, v411, v412, v413, v414, v415, v416, v417, v418, v419, v420, v421, v422, v423, v424, v425, v426, v427, v428, v429, v430, v431, v432, v433, v434, v435, v436, v437, v438, v439, v440, v441, v442, v443, v444, v445, v446, v447, v448, v449, v450, v451, v452, v453, v454, v455, v456, v457, v458, v459, v460, v461, v462, v463, v464, v465, v466], []⟩ W := by
  have hnA : d.nA ≤ 64 := by rw [hdn]; exact Inp.nA_le hsm
  obtain ⟨Zi, hmki⟩ := make149
  obtain ⟨Z1, hz1, hz2, hmk1⟩ := make_run Ybad.underlying25 info37 (by rfl) d.nA (by omega) (by omega)
  have s1 : (W.alloc (.cells Zi 149)).heap.size = W.heap.size + 1 := World.size_alloc _ _
  have hth : (W.alloc (.cells Zi 149)).there d.bt 3 9 := World.there_alloc hT.there _
  obtain ⟨cs, hcs⟩ : ∃ cs : List Value, cs = [.slice (some ⟨d.bL, 0, none⟩) d.nl d.capL, .slice (some ⟨W.heap.size, 0, none⟩) 1 1, .slice none 0 0, .slice none 0 0, .int .u32 1, .int .i32 0, .int .i64 0, .int .i64 0, .int .i64 0] := ⟨_, rfl⟩
  obtain ⟨V, hV⟩ : ∃ V, V = (W.alloc (.cells Zi 149)).setCells d.bt 3 cs := ⟨_, rfl⟩
  have hcl : cs.length = 9 := by rw [hcs]; rfl
  have hX : XFr W V (fun k => k = d.bt) := by rw [hV]; exact XFr.setCells (U := fun k => k = d.bt) d.bt (Or.inl rfl) cs 3 ((XFr.refl W _).alloc _)
  have hVs : V.heap.size = W.heap.size + 1 := by rw [hV, setCells_size, s1]
  have hfar : ∀ j, j < 3 ∨ 12 ≤ j → V.cell? ⟨d.bt, j, none⟩ = W.cell? ⟨d.bt, j, none⟩ := fun j hj => by
    rw [hV, World.cell?_setCells_out d.bt cs 3 _ _ (fun _ _ => by rw [hcl]; simpa using hj)]
    exact World.cell?_of_block (w := W) (Below.heap_alloc W _ _ hT.l1)
  have h3 : V.cell? ⟨d.bt, 3, none⟩ = some (.slice (some ⟨d.bL, 0, none⟩) d.nl d.capL) := by
    rw [hV]
    have h5 := World.cell?_setCells_in d.bt cs 3 (W.alloc (.cells Zi 149)) (fun j hj => (hth j (by omega)).1) 0 (by omega)
    rw [Nat.add_zero] at h5
    rw [h5]
    subst hcs; rfl
  have HX : Hid (XFr W V (fun k => k = d.bt)) := hX
  have HF : Hid (∀ j, j < 3 ∨ 12 ≤ j → V.cell? ⟨d.bt, j, none⟩ = W.cell? ⟨d.bt, j, none⟩) := hfar
  have H3 : Hid (V.cell? ⟨d.bt, 3, none⟩ = some (.slice (some ⟨d.bL, 0, none⟩) d.nl d.capL)) := h3
  have HVS : Hid (V.heap.size = W.heap.size + 1) := hVs
  have HTH : Hid ((W.alloc (.cells Zi 149)).there d.bt 3 9) := hth
  have HV : Hid (V = (W.alloc (.cells Zi 149)).setCells d.bt 3 [.slice (some ⟨d.bL, 0, none⟩) d.nl d.capL, .slice (some ⟨W.heap.size, 0, none⟩) 1 1, .slice none 0 0, .slice none 0 0, .int .u32 1, .int .i32 0, .int .i64 0, .int .i64 0, .int .i64 0]) := by rw [← hcs]; exact hV
  have HNI : Hid (NI I (V.alloc (.cells Z1 37)) V.heap.size 0 (V.alloc (.cells Z1 37))) := by
    have n1 : (V.alloc (.cells Z1 37)).heap[V.heap.size]? = some (.cells Z1 37) := World.alloc_heap_new V _
    refine ⟨fun a ha => absurd ha (Nat.not_lt_zero a), fun a _ ha => ?_, fun a => frozen_of n1, XFr.refl _ _, blk_lt n1⟩
    rw [cell_blk n1, hz2 a (by rw [hdn]; omega), Nat.mod_one]; rfl
  have HT : Hid (TQ d W) := hT
  have HI : Hid (I.At w0) := hI
  have HB : Hid (Below w0.heap.size w0 W) := hb
  have HBT : Hid (w0.heap.size ≤ d.bt) := hbt
  have HRA : Hid (∀ i, i < I.n1 → W.cell? ⟨bra, i, none⟩ = some (.int .u32 (I.ra i : Nat))) := hra
  have HRN : Hid (∀ i, i < I.n1 → W.cell? ⟨brn, i, none⟩ = some (.int .u32 (I.rn i : Nat))) := hrn
  have HRL : Hid (∀ i, i < I.n1 → W.cell? ⟨brl, i, none⟩ = some (.int .u32 (I.rl i : Nat))) := hrl
  have HCH : Hid (∀ a, a < I.nA → W.cell? ⟨bC, a, none⟩ = some (.slice (some ⟨bs a, 0, none⟩) (I.tot a) (cc a))) := hchars
  have HCR : Hid (∀ a, a < I.nA → ∀ j, j < I.tot a → W.cell? ⟨bs a, j, none⟩ = some (.string (st ((I.cs a).getD j [])))) := hchr
  have HL : Hid (bC < W.heap.size ∧ bra < W.heap.size ∧ brn < W.heap.size ∧ brl < W.heap.size) := hlt
  have HNE : Hid (bC ≠ d.bt ∧ bra ≠ d.bt ∧ brn ≠ d.bt ∧ brl ≠ d.bt ∧ ∀ a, a < I.nA → bs a ≠ d.bt) := hne
  have HN : Hid (d.nA = I.nA) := hdn
  have HO : Hid (∀ bi ci bd cd, (TreeD.out { d with bi := bi, ci := ci, ins := I.ins, bd := bd, cd := cd, S := I.D I.n5 } d.xs) = I.want (I.D I.n5) I.n1) := hdo
  have HSM : Hid I.Sm := hsm
  have hbw : d.bt < W.heap.size := hT.l1
  have HONE : Hid (((#[.slice (some ⟨d.bL, 0, none⟩) d.nl d.capL, .slice (some ⟨W.heap.size, 0, none⟩) 1 1, .slice none 0 0, .slice none 0 0, .int .u32 1, .int .i32 0, .int .i64 0, .int .i64 0, .int .i64 0] : Array Value).all (·.oneCell')) = true) := by show _ = true; simp [Value.oneCell']
  clear hI hT hb hbt hra hrn hrl hchars hchr hlt hne hdn hdo hsm hz1 hz2 hX hVs hfar h3 hth s1 hV hcl hcs
  conv => arg 2; whnf
  conv => arg 4; dsimp only
  go_wp2_with (refine wpList_store_mid (P := Ybad.prog) (by rfl) 41 (.tmp 301) (.tmp 299) (by rfl) d.bt 3 #[.slice (some ⟨d.bL, 0, none⟩) d.nl d.capL, .slice (some ⟨W.heap.size, 0, none⟩) 1 1, .slice none 0 0, .slice none 0 0, .int .u32 1, .int .i32 0, .int .i64 0, .int .i64 0, .int .i64 0] (by rfl) (by rfl) HTH.out size41 HONE.out ?_; rw [← HV.out])
  go_loopw [41] (fun x wr => ∃ n : Nat, x = .int .i64 n ∧ n ≤ d.nA ∧ NI I (V.alloc (.cells Z1 37)) V.heap.size n wr) (fun x _ => d.nA - (intOf x).toNat)
  case atStart => exact ⟨0, rfl, Nat.zero_le _, HNI.out⟩
  case round =>
    rename_i Kn hKn
    have HKN : Hid (∀ a w, Code.wp Ybad.prog rest71 (bodyPost Ybad.prog Ybad.f3 (lawPost w0)) a w → Kn a w) := hKn
    clear hKn HNI hmk1 hmki
    obtain ⟨n, rfl, hn, hg⟩ := hrel
    obtain ⟨wo, rfl⟩ : ∃ wo, wo = wr := ⟨_, rfl⟩
    have HG : Hid (NI I (V.alloc (.cells Z1 37)) V.heap.size n wo) := hg
    have hx1 : XFr W (V.alloc (.cells Z1 37)) (fun k => k = d.bt) := HX.out.alloc _
    have hx2 : XFr W wo (fun k => k = d.bt) := hx1.trans hg.fr (fun k e => Or.inr (by have h5 := HVS.out; omega))
    have hbe : Below w0.heap.size w0 wo := HB.out.trans ⟨hx2.os, hx2.tape, hx2.output, hx2.size, fun k hk => hx2.blk k (Nat.lt_of_lt_of_le hk HB.out.size) (fun e => by have h5 := HBT.out; omega)⟩
    have HX2 : Hid (XFr W wo (fun k => k = d.bt)) := hx2
    have HBE : Hid (Below w0.heap.size w0 wo) := hbe
    clear hg hx1 hx2 hbe
    by_cases h : n < d.nA
    · have e1 : (n : Int) < (d.nA : Int) := by omega
      have hnI : n < I.nA := by rw [← HN.out]; exact h
      have c1 := HG.out.rest n (Nat.le_refl _) hnI
      have f1 := HG.out.frz n
      by_cases h4 : n < I.n4
      · have e2 : (n : Int) < (I.n4 : Int) := by omega
        obtain ⟨b, o, ha4, c2, hz⟩ := (HI.out.below HBE.out).z n h4
        have HP : Hid (NI I (V.alloc (.cells Z1 37)) V.heap.size (n + 1) (wo.setCell ⟨V.heap.size, n, none⟩ (.int .u32 (I.iz n : Nat)))) := HG.out.put hnI (by unfold Inp.ins; rw [if_pos h4])
        rw [ha4]
        obtain ⟨zz, hzz⟩ : ∃ zz, zz = I.iz n := ⟨_, rfl⟩
        rw [← hzz] at c2 hz HP
        clear hzz
        go_wp2
        exact ⟨⟨n + 1, by go_num, by omega, HP.out⟩, by simp [intOf]; go_num⟩
      · have e2 : ¬ (n : Int) < (I.n4 : Int) := by omega
        have HP : Hid (NI I (V.alloc (.cells Z1 37)) V.heap.size (n + 1) (wo.setCell ⟨V.heap.size, n, none⟩ (.int .u32 (4294967295 : Nat)))) := HG.out.put hnI (by unfold Inp.ins; rw [if_neg h4])
        go_wp2
        exact ⟨⟨n + 1, by go_num, by omega, HP.out⟩, by simp [intOf]; go_num⟩
    · have e1 : ¬ (n : Int) < (d.nA : Int) := by omega
      go_wp2
      have en : n = d.nA := by omega
      subst en
      have hx := HX2.out
      have hkb := kept_bt hx
      have hc : ∀ {p : Addr} {u : Value}, p.block < W.heap.size ∧ p.block ≠ d.bt → W.cell? p = some u → wo.cell? p = some u := fun hp hcc => hkb.cell (fun _ _ => hp) hcc
      have hlb := HL.out
      have hnb := HNE.out
      have hbtc : ∀ j, wo.cell? ⟨d.bt, j, none⟩ = V.cell? ⟨d.bt, j, none⟩ := fun j => (HG.out.fr.cell j (by rw [World.size_alloc]; have h5 := HVS.out; omega) (by have h5 := HVS.out; omega)).trans (World.cell?_of_block (w := V) (Below.heap_alloc V (.cells Z1 37) d.bt (by have h5 := HVS.out; omega)))
      refine HKN.out _ _ (s71 I HSM.out w0 wo HI.out { d with bi := V.heap.size, ci := d.nA, ins := I.ins } (HT.out.tp hx ((hbtc 12).trans (HF.out 12 (by omega))) ((hbtc 0).trans (HF.out 0 (by omega))) ((hbtc 3).trans H3.out) V.heap.size d.nA (by have h5 := HG.out.fr.size; rw [World.size_alloc] at h5; omega) I.ins (fun a ha => HG.out.done a ha)) HBE.out bC cC bra brn brl bs cc
        (fun i hi => hc ⟨hlb.2.1, hnb.2.1⟩ (HRA.out i hi)) (fun i hi => hc ⟨hlb.2.2.1, hnb.2.2.1⟩ (HRN.out i hi)) (fun i hi => hc ⟨hlb.2.2.2, hnb.2.2.2.1⟩ (HRL.out i hi)) (fun a _ => rfl) (fun a ha => hc ⟨hlb.1, hnb.1⟩ (HCH.out a ha)) (fun a ha j hj => hc ⟨World.block_lt_of_cell? W _ (HCR.out a ha j hj), hnb.2.2.2.2 a ha⟩ (HCR.out a ha j hj))
        ⟨Nat.lt_of_lt_of_le hlb.1 hx.size, Nat.lt_of_lt_of_le hlb.2.1 hx.size, Nat.lt_of_lt_of_le hlb.2.2.1 hx.size, Nat.lt_of_lt_of_le hlb.2.2.2 hx.size⟩ HN.out (fun bd cd => HO.out _ _ bd cd))
end Go.Proofs.YbulkdhcgDoor
