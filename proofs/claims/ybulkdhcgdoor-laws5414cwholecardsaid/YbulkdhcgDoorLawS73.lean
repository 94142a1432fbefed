/-
  The law from region 73 on: deleted and gone are made.
-/
import Derived.Test.YbulkdhcgDoorLawS79
namespace Go.Proofs.YbulkdhcgDoor
open Go.RowKit

theorem make_run {t e : TypeId} {z : Value} {size bytes : Nat} (ht : Ybad.prog.underlying t = some (.slice e)) (hinfo : (Ybad.prog.info? e).map (fun i => (i.zero, i.size, i.bytes)) = some (some z, size, bytes)) (hzs : z.cells.size = size) (n : Nat) (hb : bytes * n ≤ 281474976710656) (h63 : n ≤ 9223372036854775807) :
    ∃ Z : Array Value, Z.size = n * size ∧ (∀ j, j < n * size → Z[j]? = some (z.cells[j % size]!)) ∧ ∀ w : World, (Instr.makeSlice t (.int .i64 (n : Int)) (.int .i64 (n : Int))).run Ybad.prog w = .ok (.slice (some ⟨w.heap.size, 0, none⟩) n n) (w.alloc (.cells Z e)) := by
  obtain ⟨i, hi, hz, hz2, hz3⟩ := info_parts hinfo
  refine ⟨madeCells z.cells (n * size), size_madeCells _ _, fun j hj => ?_, fun w => ?_⟩
  · unfold madeCells; simp [hj, hzs]
  · have hb' : (i.bytes : Int) * (n : Int) ≤ 281474976710656 := by
      rw [hz3]
      have h : ((bytes * n : Nat) : Int) ≤ 281474976710656 := by omega
      rwa [Int.natCast_mul] at h
    have := run_make (P := Ybad.prog) w t e i z ht hi hz .i64 .i64 n n (by omega) (Int.le_refl _) hb' (by omega)
    simp only [Int.toNat_natCast, hz2] at this
    exact this
theorem frozen_of {w : World} {b j : Nat} {cs : Array Value} {T : TypeId} (h : w.heap[b]? = some (.cells cs T)) : w.frozen? ⟨b, j, none⟩ = false := by
  unfold World.frozen?
  simp only [h]
  rfl
theorem info57 : (Ybad.prog.info? 57).map (fun i => (i.zero, i.size, i.bytes)) = some (some (.agg #[.slice none 0 0]), 1, 24) := by kernel_rfl
theorem info81 : (Ybad.prog.info? 81).map (fun i => (i.zero, i.size, i.bytes)) = some (some (.slice none 0 0), 1, 24) := by kernel_rfl
theorem info4 : (Ybad.prog.info? 4).map (fun i => (i.zero, i.size, i.bytes)) = some (some (.bool false), 1, 1) := by kernel_rfl
theorem TP.withSet {d : TreeD} {B : Nat} {w : World} (h : TP d B w) (bd cd : Nat) (S : Nat → Nat → Bool) : TP { d with bd := bd, cd := cd, S := S } B w :=
  ⟨h.l0, h.l1, h.l2, h.l3, h.l4, h.l5, h.l6, h.l7, h.actors, h.runs, h.chunk, h.nR, h.leaves, h.lv, h.nL, h.tab, h.txt, h.ok, h.y, h.ins, h.xlt, h.len, h.nA⟩
theorem TP.kept {d : TreeD} {B : Nat} {w W : World} (h : TP d B w) (hk : Kept (fun k _ => k < B) w W) : TP d B W := by
  have c : ∀ {p : Addr} {v : Value}, p.block < B → w.cell? p = some v → W.cell? p = some v := fun hp hc => hk.cell (fun _ _ => hp) hc
  exact ⟨h.l0, h.l1, h.l2, h.l3, h.l4, h.l5, h.l6, h.l7, c h.l1 h.actors, c h.l1 h.runs, c h.l3 h.chunk, h.nR, c h.l1 h.leaves, h.lv.kept hk (fun _ _ => h.l5), h.nL, fun j hj => c h.l0 (h.tab j hj),
    fun a ha => (h.txt a ha).kept hk (fun _ _ => h.l2) (fun _ _ => (h.l7 a ha).1) (fun _ _ => (h.l7 a ha).2.1) (fun _ _ => (h.l7 a ha).2.2), h.ok, h.y, fun a ha => c h.l6 (h.ins a ha),
    fun x hx => by obtain ⟨a1, a2, a3, a4, a5, a6⟩ := h.xlt x hx; exact ⟨a1, a2, a3, c h.l4 a4, c h.l4 a5, c h.l4 a6⟩, h.len, h.nA⟩
theorem blk_lt {w : World} {b : Nat} {o : Obj} (h : w.heap[b]? = some o) : b < w.heap.size := (Array.getElem?_eq_some_iff.1 h).1
theorem cell_blk {w : World} {b j : Nat} {Z : Array Value} {T : TypeId} (h : w.heap[b]? = some (.cells Z T)) : w.cell? ⟨b, j, none⟩ = Z[j]? := cell_of_row w b j Z T (0, 0) h

/-- the rows of flags made so far. -/
structure GV (I : Inp) (W : World) (bd bG n : Nat) (bg : Nat → Nat) (wr : World) : Prop where
  done : ∀ a, a < n → wr.cell? ⟨bG, a, none⟩ = some (.slice (some ⟨bg a, 0, none⟩) (I.tot a) (I.tot a))
  rest : ∀ a, n ≤ a → a < I.nA → wr.cell? ⟨bG, a, none⟩ = some (.slice none 0 0)
  fG : ∀ a, wr.frozen? ⟨bG, a, none⟩ = false
  blk : ∀ a, a < n → ∃ Z, wr.heap[bg a]? = some (.cells Z 4) ∧ ∀ y, y < I.tot a → Z[y]? = some (.bool false)
  ge : ∀ a, a < n → bG < bg a
  inc : ∀ a b, a < b → b < n → bg a < bg b
  fr : XFr W wr (fun _ => False)
  del : ∀ a, a < I.nA → wr.cell? ⟨bd, a, none⟩ = some (.slice none 0 0) ∧ wr.frozen? ⟨bd, a, none⟩ = false
  b1 : W.heap.size ≤ bd
  b2 : bd < bG
  b3 : bG < wr.heap.size
theorem GV.put {I : Inp} {W : World} {bd bG n : Nat} {bg : Nat → Nat} {wr : World} (h : GV I W bd bG n bg wr) (hn : n < I.nA) {Z : Array Value} (hZ : ∀ y, y < I.tot n → Z[y]? = some (.bool false)) :
    GV I W bd bG (n + 1) (fun a => if a = n then wr.heap.size else bg a) ((wr.alloc (.cells Z 4)).setCell ⟨bG, n, none⟩ (.slice (some ⟨wr.heap.size, 0, none⟩) (I.tot n) (I.tot n))) := by
  have hold : ∀ k, k < wr.heap.size → (wr.alloc (.cells Z 4)).heap[k]? = wr.heap[k]? := fun k hk => Below.heap_alloc wr _ k hk
  have hset : ∀ k, k ≠ bG → ((wr.alloc (.cells Z 4)).setCell ⟨bG, n, none⟩ (.slice (some ⟨wr.heap.size, 0, none⟩) (I.tot n) (I.tot n))).heap[k]? = (wr.alloc (.cells Z 4)).heap[k]? := fun k hk => Below.heap_setCell _ _ _ k hk
  have hne : ∀ j, j ≠ n → ((wr.alloc (.cells Z 4)).setCell ⟨bG, n, none⟩ (.slice (some ⟨wr.heap.size, 0, none⟩) (I.tot n) (I.tot n))).cell? ⟨bG, j, none⟩ = wr.cell? ⟨bG, j, none⟩ := fun j hj => (World.cell?_setCell_other _ _ _ _ (fun e => hj (by cases e; rfl))).trans (World.cell?_of_block (w := wr) (hold bG h.b3))
  have hb3 := h.b3
  have hb2 := h.b2
  have hsz : ((wr.alloc (.cells Z 4)).setCell ⟨bG, n, none⟩ (.slice (some ⟨wr.heap.size, 0, none⟩) (I.tot n) (I.tot n))).heap.size = wr.heap.size + 1 := by
    show ((wr.alloc (.cells Z 4)).heap.modify _ _).size = _
    rw [Array.size_modify, World.size_alloc]
  refine ⟨fun a ha => ?_, fun a h1 h2 => ?_, fun a => ?_, fun a ha => ?_, fun a ha => ?_, fun a b hab hb => ?_, (h.fr.alloc _).set bG n _ (Or.inr (by have := h.b1; omega)), fun a ha => ?_, h.b1, h.b2, by omega⟩
  · by_cases e : a = n
    · simp only [if_pos e]
      rw [e]
      exact World.cell?_setCell_same _ _ _ ((World.cell?_of_block (w := wr) (hold bG h.b3)).trans (h.rest n (Nat.le_refl _) hn))
    · simp only [if_neg e]
      rw [hne a e]; exact h.done a (by omega)
  · rw [hne a (by omega)]; exact h.rest a (by omega) h2
  · rw [World.frozen?_setCell]; exact (World.frozen?_of_block (w := wr) (hold bG h.b3)).trans (h.fG a)
  · by_cases e : a = n
    · simp only [if_pos e]
      refine ⟨Z, ?_, by rw [e]; exact hZ⟩
      rw [hset _ (by omega)]; exact World.alloc_heap_new wr _
    · simp only [if_neg e]
      obtain ⟨Z', h1, h2⟩ := h.blk a (by omega)
      have h3 := blk_lt h1
      have h4 := h.ge a (by omega)
      exact ⟨Z', by rw [hset _ (by omega), hold _ h3]; exact h1, h2⟩
  · by_cases e : a = n
    · simp only [if_pos e]; omega
    · simp only [if_neg e]; exact h.ge a (by omega)
  · by_cases e : b = n
    · simp only [if_pos e, if_neg (by omega : a ≠ n)]
      obtain ⟨Z', h1, _⟩ := h.blk a (by omega)
      exact blk_lt h1
    · simp only [if_neg e, if_neg (by omega : a ≠ n)]
      exact h.inc a b hab (by omega)
  · have h1 : ((wr.alloc (.cells Z 4)).setCell ⟨bG, n, none⟩ (.slice (some ⟨wr.heap.size, 0, none⟩) (I.tot n) (I.tot n))).heap[bd]? = wr.heap[bd]? := (hset bd (by omega)).trans (hold bd (by omega))
    exact ⟨(World.cell?_of_block (w := wr) h1).trans (h.del a ha).1, (World.frozen?_of_block (w := wr) h1).trans (h.del a ha).2⟩
noncomputable def rest73 : Code := (Ybad.f3.body.bind (restFrom 73)).getD .skip
set_option maxRecDepth 100000 in
set_option maxHeartbeats 8000000 in
theorem s73 (I : Inp) (hsm : I.Sm) (w0 W : World) (hI : I.At w0) (d : TreeD) (hT : TP d W.heap.size W) (hb : Below w0.heap.size w0 W) (bk ck bC cC bra brn brl : Nat) (bs cc : Nat → Nat) (hk : ∀ a, a < d.nA → W.cell? ⟨bk, a, none⟩ = some (.int .u32 (d.ins a : Nat)))
    (hra : ∀ i, i < I.n1 → W.cell? ⟨bra, i, none⟩ = some (.int .u32 (I.ra i : Nat))) (hrn : ∀ i, i < I.n1 → W.cell? ⟨brn, i, none⟩ = some (.int .u32 (I.rn i : Nat))) (hrl : ∀ i, i < I.n1 → W.cell? ⟨brl, i, none⟩ = some (.int .u32 (I.rl i : Nat))) (hins : ∀ a, a < I.nA → d.ins a = I.ins a)
    (hchars : ∀ a, a < I.nA → W.cell? ⟨bC, a, none⟩ = some (.slice (some ⟨bs a, 0, none⟩) (I.tot a) (cc a))) (hchr : ∀ a, a < I.nA → ∀ j, j < I.tot a → W.cell? ⟨bs a, j, none⟩ = some (.string (st ((I.cs a).getD j []))))
    (hlt : bk < W.heap.size ∧ bC < W.heap.size ∧ bra < W.heap.size ∧ brn < W.heap.size ∧ brl < W.heap.size) (hdn : d.nA = I.nA) (hdo : ∀ bd cd, (TreeD.out { d with bd := bd, cd := cd, S := I.D I.n5 } d.xs) = I.want (I.D I.n5) I.n1)
    {v0 v1 v2 v3 v4 v6 v7 v8 v9 v10 v11 v13 v14 v15 v19 v20 v21 v22 v23 v24 v25 v26 v27 v28 v32 v33 v34 v35 v36 v37 v38 v39 v41 v43 v44 v45 v46 v47 v48 v49 v50 v51 v52 v53 v54 v55 v56 v57 v58 v59 v60 v61 v62 v63 v64 v65 v66 v67 v68 v69 v70 v71 v72 v73 v74 v75 v76 v77 v78 v79 v80 v81 v82 v83 v84 v85 v86 v87 v88 v89 v90 v91 v92 v93 v94 v95 v96 v97 v98 v99 v100 v101 v102 v103 v104 v105 v106 v107 v108 v109 v110 v111 v112 v113 v114 v115 v116 v117 v118 v119 v120 v121 v122 v123 v124 v125 v126 v127 v128 v129 v130 v131 v132 v133 v134 v135 v136 v137 v138 v139 v140 v141 v142 v143 v144 v145 v146 v147 v148 v149 v150 v151 v152 v153 v154 v155 v156 v157 v158 v159 v160 v161 v162 v163 v164 v165 v166 v167 v168 v169 v170 v171 v172 v173 v174 v175 v176 v177 v178 v179 v180 v181 v182 v183 v184 v185 v186 v187 v188 v189 v190 v191 v192 v193 v194 v195 v196 v197 v198 v199 v200 v201 v202 v203 v204 v205 v206 v207 v208 v209 v210 v211 v212 v213 v214 v215 v216 v217 v218 v219 v220 v221 v222 v223 v224 v225 v226 v227 v228 v229 v230 v231 v232 v233 v234 v235 v236 v237 v238 v239 v240 v241 v242 v243 v244 v245 v246 v247 v248 v249 v250 v251 v252 v253 v254 v255 v256 v257 v258 v259 v260 v261 v262 v263 v264 v265 v266 v267 v268 v269 v270 v271 v272 v273 v274 v275 v276 v277 v278 v279 v280 v281 v282 v283 v284 v285 v286 v287 v288 v289 v290 v291 v292 v293 v294 v295 v296 v297 v298 v299 v300 v301 v302 v303 v304 v305 v306 v307 v308 v309 v310 v311 v312 v313 v314 v315 v316 v317 v318 v319 v320 v321 v322 v323 v324 v325 v326 v327 v328 v329 v330 v331 v332 v333 v334 v335 v336 v337 v338 v339 v340 v341 v342 v343 v344 v345 v346 v347 v348 v349 v350 v351 v352 v353 v354 v355 v356 v357 v358 v359 v360 v361 v362 v363 v364 v365 v366 v367 v368 v369 v370 v371 v372 v373 v374 v375 v376 v377 v378 v379 v380 v381 v382 v383 v384 v385 v386 v387 v388 v389 v390 v391 v392 v393 v394 v395 v396 v397 v398 v399 v400 v401 v402 v403 v404 v405 v406 v407 v408 v409 v410 v411 v412 v413 v414 v415 v416 v417 v418 v419 v420 v421 v422 v423 v424 v425 v426 v427 v428 v429 v430 v431 v432 v433 v434 v435 v436 v437 v438 v439 v440 v441 v442 v443 v444 v445 v446 v447 v448 v449 v450 v451 v452 v453 v454 v455 v456 v457 v458 v459 v460 v461 v462 v463 v464 v465 v466 : Value} :
    Code.wp Ybad.prog rest73 (bodyPost Ybad.prog Ybad.f3 (lawPost w0)) ⟨#[v0, v1, v2, v3, v4, .slice I.a5 I.n5 I.k5, v6, v7, v8, v9, v10, v11, .bool false, v13, v14, v15, .int .i64 (d.nA : Nat), .slice (some ⟨bC, 0, none⟩) d.nA cC, .pointer (some ⟨d.bt, 0, none⟩), v19, v20, v21, v22, v23, v24, v25, v26, v27, v28, .slice (some ⟨bra, 0, none⟩) I.n1 I.n1, .slice (some ⟨brn, 0, none⟩) I.n1 I.n1, .slice (some ⟨brl, 0, none⟩) I.n1 I.n1, v32, v33, v34, v35, v36, v37, v38, v39, .slice (some ⟨d.bi, 0, none⟩) d.nA d.ci, v41, .slice (some ⟨bk, 0, none⟩) d.nA ck, v43, v44, v45, v46, v47, v48, v49, v50, v51, v52, v53, v54, v55, v56, v57, v58, v59, v60, v61, v62, v63, v64, v65, v66, v67, v68, v69, v70, v71, v72, v73, v74, v75, v76, v77, v78, v79, v80, v81, v82, v83, v84, v85, v86, v87, v88, v89, v90, v91, v92, v93, v94, v95, v96, v97, v98, v99, v100, v101, v102, v103, v104, v105, v106, v107, v108, v109, v110, v111, v112, v113, v114, v115, v116, v117, v118, v119, v120, v121, v122, v123, v124, v125, v126, v127, v128, v129, v130, v131, v132, v133, v134, v135, v136, v137, v138, v139, v140, v141, v142, v143, v144, v145, v146, v147, v148, v149, v150, v151, v152, v153, v154, v155, v156, v157, v158, v159, v160, v161, v162, v163, v164, v165, v166, v167, v168, v169, v170, v171, v172, v173, v174, v175, v176, v177, v178, v179, v180, v181, v182, v183, v184, v185, v186, v187, v188, v189, v190, v191, v192, v193, v194, v195, v196, v197, v198, v199, v200, v201, v202, v203, v204, v205, v206, v207, v208, v209, v210, v211, v212, v213, v214, v215, v216, v217, v218, v219, v220, v221, v222, v223, v224, v225, v226, v227, v228, v229, v230, v231, v232, v233, v234, v235, v236, v237, v238, v239, v240, v241, v242, v243, v244, v245, v246, v247, v248, v249, v250, v251, v252, v253, v254, v255, v256, v257, v258, v259, v260, v261, v262, v263, v264, v265, v266, v267, v268, v269, v270, v271, v272, v273, v274, v275, v276, v277, v278, v279, v280, v281, v282, v283, v284, v285, v286, v287, v288, v289, v290, v291, v292, v293, v294, v295, v296, v297, v298, v299, v300, v301, v302, v303, v304, v305, v306, v307, v308, v309, v310, v311, v312, v313, v314, v315, v316, v317, v318, v319, v320, v321, v322, v323, v324, v325, v326, v327, v328, v329, v330, v331, v332, v333, v334, v335, v336, v337, v338, v339, v340, v341, v342, v343, v344, v345, v346, v347, v348, v349, v350, v351, v352, v353, v354, v355, v356, v357, v358, v359, v360, v361, v362, v363, v364, v365, v366, v367, v368, v369, v370, v371, v372, v373, v374, v375, v376, v377, v378, v379, v380, v381, v382, v383, v384, v385, v386, v387, v388, v389, v390, v391, v392, v393, v394, v395, v396, v397, v398, v399, v400, v401, v402, v403, v404, v405, v406, v407, v408, v409, v410, v411, v412, v413, v414, v415, v416, v417, v418, v419, v420, v421, v422, v423, v424, v425, v426, v427, v428, v429, v430, v431, v432, v433, v434, v435, v436, v437, v438, v439, v440, v441, v442, v443, v444, v445, v446, v447, v448, v449, v450, v451, v452, v453, v454, v455, v456, v457, v458, v459, v460, v461, v462, v463, v464, v465, v466], []⟩ W := by
  have HI : Hid (I.At w0) := hI
  have HT : Hid (TP d W.heap.size W) := hT
  have HB : Hid (Below w0.heap.size w0 W) := hb
  have HK : Hid (∀ a, a < d.nA → W.cell? ⟨bk, a, none⟩ = some (.int .u32 (d.ins a : Nat))) := hk
  have HRA : Hid (∀ i, i < I.n1 → W.cell? ⟨bra, i, none⟩ = some (.int .u32 (I.ra i : Nat))) := hra
  have HRN : Hid (∀ i, i < I.n1 → W.cell? ⟨brn, i, none⟩ = some (.int .u32 (I.rn i : Nat))) := hrn
  have HRL : Hid (∀ i, i < I.n1 → W.cell? ⟨brl, i, none⟩ = some (.int .u32 (I.rl i : Nat))) := hrl
  have HINS : Hid (∀ a, a < I.nA → d.ins a = I.ins a) := hins
  have HCH : Hid (∀ a, a < I.nA → W.cell? ⟨bC, a, none⟩ = some (.slice (some ⟨bs a, 0, none⟩) (I.tot a) (cc a))) := hchars
  have HCR : Hid (∀ a, a < I.nA → ∀ j, j < I.tot a → W.cell? ⟨bs a, j, none⟩ = some (.string (st ((I.cs a).getD j [])))) := hchr
  have HL : Hid (bk < W.heap.size ∧ bC < W.heap.size ∧ bra < W.heap.size ∧ brn < W.heap.size ∧ brl < W.heap.size) := hlt
  have HN : Hid (d.nA = I.nA) := hdn
  have HO : Hid (∀ bd cd, (TreeD.out { d with bd := bd, cd := cd, S := I.D I.n5 } d.xs) = I.want (I.D I.n5) I.n1) := hdo
  have HSM : Hid I.Sm := hsm
  have hnA : d.nA ≤ 64 := by rw [hdn]; exact Inp.nA_le hsm
  obtain ⟨Z1, hz1, hz2, hmk1⟩ := make_run Ybad.underlying79 info57 (by rfl) d.nA (by omega) (by omega)
  obtain ⟨Z2, hz3, hz4, hmk2⟩ := make_run Ybad.underlying80 info81 (by rfl) d.nA (by omega) (by omega)
  have HGI : Hid (GV I W W.heap.size (W.heap.size + 1) 0 (fun _ => 0) ((W.alloc (.cells Z1 57)).alloc (.cells Z2 81))) := by
    have s1 : (W.alloc (.cells Z1 57)).heap.size = W.heap.size + 1 := World.size_alloc _ _
    have n1 : ((W.alloc (.cells Z1 57)).alloc (.cells Z2 81)).heap[W.heap.size + 1]? = some (.cells Z2 81) := by have := World.alloc_heap_new (W.alloc (.cells Z1 57)) (.cells Z2 81); rw [s1] at this; exact this
    have n2 : ((W.alloc (.cells Z1 57)).alloc (.cells Z2 81)).heap[W.heap.size]? = some (.cells Z1 57) := (Below.heap_alloc _ _ _ (by rw [s1]; omega)).trans (World.alloc_heap_new W _)
    refine ⟨fun a ha => absurd ha (Nat.not_lt_zero a), fun a _ ha => ?_, fun a => frozen_of n1, fun a ha => absurd ha (Nat.not_lt_zero a), fun a ha => absurd ha (Nat.not_lt_zero a), fun a b _ hb => absurd hb (Nat.not_lt_zero b), ((XFr.refl W _).alloc _).alloc _, fun a ha => ⟨?_, frozen_of n2⟩, Nat.le_refl _, Nat.lt_succ_self _, by rw [World.size_alloc, s1]; omega⟩
    · rw [cell_blk n1, hz4 a (by rw [hdn]; omega)]; rw [Nat.mod_one]; rfl
    · rw [cell_blk n2, hz2 a (by rw [hdn]; omega)]; rw [Nat.mod_one]; rfl
  clear hI hT hb hk hra hrn hrl hins hchars hchr hlt hdn hdo hsm hz1 hz2 hz3 hz4
  conv => arg 2; whnf
  conv => arg 4; dsimp only
  go_wp2
  go_loopw [45] (fun x wr => ∃ (n : Nat) (bg : Nat → Nat), x = .int .i64 n ∧ n ≤ d.nA ∧ GV I W W.heap.size (W.heap.size + 1) n bg wr) (fun x _ => d.nA - (intOf x).toNat)
  case atStart => exact ⟨0, _, rfl, Nat.zero_le _, HGI.out⟩
  case round =>
    rename_i Kn hKn
    have HKN : Hid (∀ a w, Code.wp Ybad.prog rest79 (bodyPost Ybad.prog Ybad.f3 (lawPost w0)) a w → Kn a w) := hKn
    clear hKn HGI hmk1 hmk2
    obtain ⟨n, bg, rfl, hn, hg⟩ := hrel
    obtain ⟨wo, rfl⟩ : ∃ wo, wo = wr := ⟨_, rfl⟩
    have HG : Hid (GV I W W.heap.size (W.heap.size + 1) n bg wo) := hg
    clear hg
    by_cases h : n < d.nA
    · have e1 : (n : Int) < (d.nA : Int) := by omega
      have hnI : n < I.nA := by rw [← HN.out]; exact h
      have g1 : wo.cell? ⟨bC, n, none⟩ = some (.slice (some ⟨bs n, 0, none⟩) (I.tot n) (cc n)) := HG.out.fr.keep (HCH.out n hnI)
      have htot := Inp.tot_le HSM.out n
      obtain ⟨Z, hz1, hz2, hmk⟩ := make_run Ybad.underlying81 info4 (by rfl) (I.tot n) (by omega) (by omega)
      have HP : Hid (GV I W W.heap.size (W.heap.size + 1) (n + 1) (fun a => if a = n then wo.heap.size else bg a) ((wo.alloc (.cells Z 4)).setCell ⟨W.heap.size + 1, n, none⟩ (.slice (some ⟨wo.heap.size, 0, none⟩) (I.tot n) (I.tot n)))) :=
        HG.out.put hnI (fun y hy => by rw [hz2 y (by omega), Nat.mod_one]; rfl)
      have g2 : (wo.alloc (.cells Z 4)).cell? ⟨W.heap.size + 1, n, none⟩ = some (.slice none 0 0) := (World.cell?_of_block (w := wo) (Below.heap_alloc wo _ _ HG.out.b3)).trans (HG.out.rest n (Nat.le_refl _) hnI)
      have f2 : (wo.alloc (.cells Z 4)).frozen? ⟨W.heap.size + 1, n, none⟩ = false := (World.frozen?_of_block (w := wo) (Below.heap_alloc wo _ _ HG.out.b3)).trans (HG.out.fG n)
      clear hz1 hz2
      obtain ⟨T, hT⟩ : ∃ T, T = I.tot n := ⟨_, rfl⟩
      rw [← hT] at g1 htot hmk HP
      clear hT
      go_wp2
      exact ⟨⟨n + 1, _, by go_num, by omega, HP.out⟩, by simp [intOf]; go_num⟩
    · have e1 : ¬ (n : Int) < (d.nA : Int) := by omega
      go_wp2
      have en : n = d.nA := by omega
      subst en
      have hx := HG.out.fr
      have hlb := HL.out
      refine HKN.out _ _ (s79 I HSM.out w0 wo HI.out { d with bd := W.heap.size, cd := d.nA, S := I.D I.n5 } W.heap.size ((HT.out.withSet W.heap.size d.nA (I.D I.n5)).kept (kept_xfr hx)) (HB.out.trans ((xfr_below hx).mono HB.out.size)) HB.out.size bk ck bC cC bra brn brl (W.heap.size + 1) d.nA bs cc bg (fun a ha => hx.keep (HK.out a ha))
        ⟨fun i hi => hx.keep (HRA.out i hi), fun i hi => hx.keep (HRN.out i hi), fun i hi => hx.keep (HRL.out i hi), fun a ha => ?_, fun a ha => HG.out.done a (by rw [HN.out]; exact ha), fun a ha y hy => ?_, fun a ha => hx.keep (HCH.out a ha), fun a ha j hj => hx.keep (HCR.out a ha j hj)⟩ ⟨hlb.1, hlb.2.1, hlb.2.2.1, hlb.2.2.2.1, hlb.2.2.2.2, fun a ha => World.block_lt_of_cell? W _ (HCR.out a ha 0 (I.tot_pos a))⟩ HN.out (HO.out _ _) rfl
        ⟨HG.out.del, fun a ha y => ?_, fun a b ha hb hab => ?_, Nat.le_refl _, by omega, fun a ha => ?_, by show W.heap.size ≠ W.heap.size + 1; omega, fun a ha => ?_, by show W.heap.size < wo.heap.size; have h5 := HG.out.b3; omega⟩)
      · rw [← HINS.out a ha]; exact hx.keep (HT.out.ins a (by rw [HN.out]; exact ha))
      · obtain ⟨Z, h5, h6⟩ := HG.out.blk a (by rw [HN.out]; exact ha)
        rw [cell_blk h5]; exact h6 y hy
      · obtain ⟨Z, h5, h6⟩ := HG.out.blk a (by rw [HN.out]; exact ha)
        exact frozen_of h5
      · rcases Nat.lt_or_gt_of_ne hab with h5 | h5
        · have h6 := HG.out.inc a b h5 (by rw [HN.out]; exact hb); omega
        · have h6 := HG.out.inc b a h5 (by rw [HN.out]; exact ha); omega
      · have h6 := HG.out.ge a (by rw [HN.out]; exact ha); omega
      · have h6 := HG.out.ge a (by rw [HN.out]; exact ha)
        obtain ⟨Z, h5, _⟩ := HG.out.blk a (by rw [HN.out]; exact ha)
        exact ⟨by show bg a ≠ W.heap.size; omega, by show bg a ≠ W.heap.size + 1; omega, blk_lt h5⟩
end Go.Proofs.YbulkdhcgDoor
