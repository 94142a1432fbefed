/-
  The law from region 71 on: the copy of inserted.
-/
import Derived.Test.YbulkdhcgDoorLawS73
namespace Go.Proofs.YbulkdhcgDoor
open Go.RowKit

theorem XFr.setCells {w : World} {U : Nat → Prop} (b : Nat) (hb : U b ∨ w.heap.size ≤ b) : ∀ (vs : List Value) (o : Nat) {W : World}, XFr w W U → XFr w (W.setCells b o vs) U
  | [], _, _, h => h
  | v :: r, o, _, h => XFr.setCells b hb r (o + 1) (h.set b o v hb)
theorem setCells_size (b : Nat) : ∀ (vs : List Value) (o : Nat) (W : World), (W.setCells b o vs).heap.size = W.heap.size
  | [], _, _ => rfl
  | v :: r, o, W => by
    rw [World.setCells, setCells_size b r]
    show (W.heap.modify _ _).size = _
    rw [Array.size_modify]
theorem TP.mono {d : TreeD} {B B' : Nat} {w : World} (h : TP d B w) (hB : B ≤ B') : TP d B' w :=
  have l : ∀ {k : Nat}, k < B → k < B' := fun hk => Nat.lt_of_lt_of_le hk hB
  ⟨l h.l0, l h.l1, l h.l2, l h.l3, l h.l4, l h.l5, l h.l6, fun a ha => ⟨l (h.l7 a ha).1, l (h.l7 a ha).2.1, l (h.l7 a ha).2.2⟩, h.actors, h.runs, h.chunk, h.nR, h.leaves, h.lv, h.nL, h.tab, h.txt, h.ok, h.y, h.ins, h.xlt, h.len, h.nA⟩
theorem info37 : (Ybad.prog.info? 37).map (fun i => (i.zero, i.size, i.bytes)) = some (some (.int .u32 0), 1, 4) := by kernel_rfl
theorem size37 : (Ybad.prog.info? 37).map (·.size) = some 1 := by kernel_rfl
noncomputable def rest71 : Code := (Ybad.f3.body.bind (restFrom 71)).getD .skip
set_option maxRecDepth 100000 in
set_option maxHeartbeats 8000000 in
theorem s71 (I : Inp) (hsm : I.Sm) (w0 W : World) (hI : I.At w0) (d : TreeD) (hT : TP d W.heap.size W) (hb : Below w0.heap.size w0 W) (bC cC bra brn brl : Nat) (bs cc : Nat → Nat)
    (hra : ∀ i, i < I.n1 → W.cell? ⟨bra, i, none⟩ = some (.int .u32 (I.ra i : Nat))) (hrn : ∀ i, i < I.n1 → W.cell? ⟨brn, i, none⟩ = some (.int .u32 (I.rn i : Nat))) (hrl : ∀ i, i < I.n1 → W.cell? ⟨brl, i, none⟩ = some (.int .u32 (I.rl i : Nat))) (hins : ∀ a, a < I.nA → d.ins a = I.ins a)
    (hchars : ∀ a, a < I.nA → W.cell? ⟨bC, a, none⟩ = some (.slice (some ⟨bs a, 0, none⟩) (I.tot a) (cc a))) (hchr : ∀ a, a < I.nA → ∀ j, j < I.tot a → W.cell? ⟨bs a, j, none⟩ = some (.string (st ((I.cs a).getD j []))))
    (hlt : bC < W.heap.size ∧ bra < W.heap.size ∧ brn < W.heap.size ∧ brl < W.heap.size) (hdn : d.nA = I.nA) (hdo : ∀ bd cd, (TreeD.out { d with bd := bd, cd := cd, S := I.D I.n5 } d.xs) = I.want (I.D I.n5) I.n1)
    {v0 v1 v2 v3 v4 v6 v7 v8 v9 v10 v11 v13 v14 v15 v19 v20 v21 v22 v23 v24 v25 v26 v27 v28 v32 v33 v34 v35 v36 v37 v38 v39 v41 v42 v43 v44 v45 v46 v47 v48 v49 v50 v51 v52 v53 v54 v55 v56 v57 v58 v59 v60 v61 v62 v63 v64 v65 v66 v67 v68 v69 v70 v71 v72 v73 v74 v75 v76 v77 v78 v79 v80 v81 v82 v83 v84 v85 v86 v87 v88 v89 v90 v91 v92 v93 v94 v95 v96 v97 v98 v99 v100 v101 v102 v103 v104 v105 v106 v107 v108 v109 v110 v111 v112 v113 v114 v115 v116 v117 v118 v119 v120 v121 v122 v123 v124 v125 v126 v127 v128 v129 v130 v131 v132 v133 v134 v135 v136 v137 v138 v139 v140 v141 v142 v143 v144 v145 v146 v147 v148 v149 v150 v151 v152 v153 v154 v155 v156 v157 v158 v159 v160 v161 v162 v163 v164 v165 v166 v167 v168 v169 v170 v171 v172 v173 v174 v175 v176 v177 v178 v179 v180 v181 v182 v183 v184 v185 v186 v187 v188 v189 v190 v191 v192 v193 v194 v195 v196 v197 v198 v199 v200 v201 v202 v203 v204 v205 v206 v207 v208 v209 v210 v211 v212 v213 v214 v215 v216 v217 v218 v219 v220 v221 v222 v223 v224 v225 v226 v227 v228 v229 v230 v231 v232 v233 v234 v235 v236 v237 v238 v239 v240 v241 v242 v243 v244 v245 v246 v247 v248 v249 v250 v251 v252 v253 v254 v255 v256 v257 v258 v259 v260 v261 v262 v263 v264 v265 v266 v267 v268 v269 v270 v271 v272 v273 v274 v275 v276 v277 v278 v279 v280 v281 v282 v283 v284 v285 v286 v287 v288 v289 v290 v291 v292 v293 v294 v295 v296 v297 v298 v299 v300 v301 v302 v303 v304 v305 v306 v307 v308 v309 v310 v311 v312 v313 v314 v315 v316 v317 v318 v319 v320 v321 v322 v323 v324 v325 v326 v327 v328 v329 v330 v331 v332 v333 v334 v335 v336 v337 v338 v339 v340 v341 v342 v343 v344 v345 v346 v347 v348 v349 v350 v351 v352 v353 v354 v355 v356 v357 v358 v359 v360 v361 v362 v363 v364 v365 v366 v367 v368 v369 v370 v371 v372 v373 v374 v375 v376 v377 v378 v379 v380 v381 v382 v383 v384 v385 v386 v387 v388 v389 v390 v391 v392 v393 v394 v395 v396 v397 v398 v399 v400 v401 v402 v403 v404 v405 v406 v407 v408 v409 v410 v411 v412 v413 v414 v415 v416 v417 v418 v419 v420 v421 v422 v423 v424 v425 v426 v427 v428 v429 v430 v431 v432 v433 v434 v435 v436 v437 v438 v439 v440 v441 v442 v443 v444 v445 v446 v447 v448 v449 v450 v451 v452 v453 v454 v455 v456 v457 v458 v459 v460 v461 v462 v463 v464 v465 v466 : Value} :
    Code.wp Ybad.prog rest71 (bodyPost Ybad.prog Ybad.f3 (lawPost w0)) ⟨#[v0, v1, v2, v3, v4, .slice I.a5 I.n5 I.k5, v6, v7, v8, v9, v10, v11, .bool false, v13, v14, v15, .int .i64 (d.nA : Nat), .slice (some ⟨bC, 0, none⟩) d.nA cC, .pointer (some ⟨d.bt, 0, none⟩), v19, v20, v21, v22, v23, v24, v25, v26, v27, v28, .slice (some ⟨bra, 0, none⟩) I.n1 I.n1, .slice (some ⟨brn, 0, none⟩) I.n1 I.n1, .slice (some ⟨brl, 0, none⟩) I.n1 I.n1, v32, v33, v34, v35, v36, v37, v38, v39, .slice (some ⟨d.bi, 0, none⟩) d.nA d.ci, v41, v42, v43, v44, v45, v46, v47, v48, v49, v50, v51, v52, v53, v54, v55, v56, v57, v58, v59, v60, v61, v62, v63, v64, v65, v66, v67, v68, v69, v70, v71, v72, v73, v74, v75, v76, v77, v78, v79, v80, v81, v82, v83, v84, v85, v86, v87, v88, v89, v90, v91, v92, v93, v94, v95, v96, v97, v98, v99, v100, v101, v102, v103, v104, v105, v106, v107, v108, v109, v110, v111, v112, v113, v114, v115, v116, v117, v118, v119, v120, v121, v122, v123, v124, v125, v126, v127, v128, v129, v130, v131, v132, v133, v134, v135, v136, v137, v138, v139, v140, v141, v142, v143, v144, v145, v146, v147, v148, v149, v150, v151, v152, v153, v154, v155, v156, v157, v158, v159, v160, v161, v162, v163, v164, v165, v166, v167, v168, v169, v170, v171, v172, v173, v174, v175, v176, v177, v178, v179, v180, v181, v182, v183, v184, v185, v186, v187, v188, v189, v190, v191, v192, v193, v194, v195, v196, v197, v198, v199, v200, v201, v202, v203, v204, v205, v206, v207, v208, v209, v210, v211, v212, v213, v214, v215, v216, v217, v218, v219, v220, v221, v222, v223, v224, v225, v226, v227, v228, v229, v230, v231, v232, v233, v234, v235, v236, v237, v238, v239, v240, v241, v242, v243, v244, v245, v246, v247, v248, v249, v250, v251, v252, v253, v254, v255, v256, v257, v258, v259, v260, v261, v262, v263, v264, v265, v266, v267, v268, v269, v270, v271, v272, v273, v274, v275, v276, v277, v278, v279, v280, v281, v282, v283, v284, v285, v286, v287, v288, v289, v290, v291, v292, v293, v294, v295, v296, v297, v298, v299, v300, v301, v302, v303, v304, v305, v306, v307, v308, v309, v310, v311, v312, v313, v314, v315, v316, v317, v318, v319, v320, v321, v322, v323, v324, v325, v326, v327, v328, v329, v330, v331, v332, v333, v334, v335, v336, v337, v338, v339, v340, v341, v342, v343, v344, v345, v346, v347, v348, v349, v350, v351, v352, v353, v354, v355, v356, v357, v358, v359, v360, v361, v362, v363, v364, v365, v366, v367, v368, v369, v370, v371, v372, v373, v374, v375, v376, v377, v378, v379, v380, v381, v382, v383, v384, v385, v386, v387, v388, v389, v390, v391, v392, v393, v394, v395, v396, v397, v398, v399, v400, v401, v402, v403, v404, v405, v406, v407, v408, v409, v410, v411, v412, v413, v414, v415, v416, v417, v418, v419, v420, v421, v422, v423, v424, v425, v426, v427, v428, v429, v430, v431, v432, v433, v434, v435, v436, v437, v438, v439, v440, v441, v442, v443, v444, v445, v446, v447, v448, v449, v450, v451, v452, v453, v454, v455, v456, v457, v458, v459, v460, v461, v462, v463, v464, v465, v466], []⟩ W := by
  have hnA : d.nA ≤ 64 := by rw [hdn]; exact Inp.nA_le hsm
  obtain ⟨Z1, hz1, hz2, hmk1⟩ := make_run Ybad.underlying25 info37 (by rfl) d.nA (by omega) (by omega)
  obtain ⟨cs, hcs⟩ : ∃ cs : List Value, cs = (List.range d.nA).map (fun a => .int .u32 (d.ins a : Nat)) := ⟨_, rfl⟩
  have hcl : cs.length = d.nA := by rw [hcs]; simp
  have hcg : ∀ j, j < d.nA → cs[j]? = some (.int .u32 (d.ins j : Nat)) := fun j hj => by rw [hcs]; simp [hj]
  have s1 : (W.alloc (.cells Z1 37)).heap.size = W.heap.size + 1 := World.size_alloc _ _
  have n1 : (W.alloc (.cells Z1 37)).heap[W.heap.size]? = some (.cells Z1 37) := World.alloc_heap_new W _
  have hcell : ∀ j, j < d.nA → ((W.alloc (.cells Z1 37)).cell? ⟨W.heap.size, j, none⟩).isSome = true := fun j hj => by rw [cell_blk n1, hz2 j (by omega)]; rfl
  obtain ⟨V, hV⟩ : ∃ V, V = (W.alloc (.cells Z1 37)).setCells W.heap.size 0 cs := ⟨_, rfl⟩
  have hcp : ∀ ty, (Builtin.copy_ #[25, 25] ty #[.slice (some ⟨W.heap.size, 0, none⟩) d.nA d.nA, .slice (some ⟨d.bi, 0, none⟩) d.nA d.ci]).run Ybad.prog (W.alloc (.cells Z1 37)) = .ok (goInt cs.length) V := fun ty => by
    rw [hV]
    refine run_copy_cells (P := Ybad.prog) _ 25 25 ty 37 W.heap.size 0 d.nA d.nA ⟨d.bi, 0, none⟩ d.nA d.ci cs Ybad.underlying25 size37 (by rw [hcl]; exact (Nat.min_self _).symm) (fun j v hv => ?_) (fun j hj => by rw [Nat.zero_add]; exact hcell j (by omega)) (fun j _ => frozen_of n1) (fun v hv => ?_)
    · have hj : j < d.nA := by rw [← hcl]; exact (List.getElem?_eq_some_iff.1 hv).1
      rw [hcg j hj] at hv
      rw [Addr.add_mid, Nat.zero_add, ← hv]
      exact (World.cell?_of_block (w := W) (Below.heap_alloc W _ _ hT.l6)).trans (hT.ins j hj)
    · rw [hcs] at hv
      obtain ⟨j, _, rfl⟩ := List.mem_map.1 hv
      rfl
  have hX : XFr W V (fun _ => False) := by rw [hV]; exact XFr.setCells _ (Or.inr (Nat.le_refl _)) cs 0 ((XFr.refl W _).alloc _)
  have hVs : W.heap.size < V.heap.size := by rw [hV, setCells_size, s1]; omega
  have hk : ∀ a, a < d.nA → V.cell? ⟨W.heap.size, a, none⟩ = some (.int .u32 (d.ins a : Nat)) := fun a ha => by
    rw [hV]
    have h5 := World.cell?_setCells_in W.heap.size cs 0 (W.alloc (.cells Z1 37)) (fun j hj => by rw [Nat.zero_add]; exact hcell j (by omega)) a (by omega)
    rw [Nat.zero_add] at h5
    rw [h5, ← List.getElem?_eq_getElem, hcg a ha]
  have HF : Hid (XFr W V (fun _ => False)) := hX
  have HK : Hid (∀ a, a < d.nA → V.cell? ⟨W.heap.size, a, none⟩ = some (.int .u32 (d.ins a : Nat))) := hk
  have HVS : Hid (W.heap.size < V.heap.size) := hVs
  have HT : Hid (TP d W.heap.size W) := hT
  have HI : Hid (I.At w0) := hI
  have HB : Hid (Below w0.heap.size w0 W) := hb
  have HRA : Hid (∀ i, i < I.n1 → W.cell? ⟨bra, i, none⟩ = some (.int .u32 (I.ra i : Nat))) := hra
  have HRN : Hid (∀ i, i < I.n1 → W.cell? ⟨brn, i, none⟩ = some (.int .u32 (I.rn i : Nat))) := hrn
  have HRL : Hid (∀ i, i < I.n1 → W.cell? ⟨brl, i, none⟩ = some (.int .u32 (I.rl i : Nat))) := hrl
  have HINS : Hid (∀ a, a < I.nA → d.ins a = I.ins a) := hins
  have HCH : Hid (∀ a, a < I.nA → W.cell? ⟨bC, a, none⟩ = some (.slice (some ⟨bs a, 0, none⟩) (I.tot a) (cc a))) := hchars
  have HCR : Hid (∀ a, a < I.nA → ∀ j, j < I.tot a → W.cell? ⟨bs a, j, none⟩ = some (.string (st ((I.cs a).getD j [])))) := hchr
  have HL : Hid (bC < W.heap.size ∧ bra < W.heap.size ∧ brn < W.heap.size ∧ brl < W.heap.size) := hlt
  have HN : Hid (d.nA = I.nA) := hdn
  have HO : Hid (∀ bd cd, (TreeD.out { d with bd := bd, cd := cd, S := I.D I.n5 } d.xs) = I.want (I.D I.n5) I.n1) := hdo
  have HSM : Hid I.Sm := hsm
  clear hI hT hb hra hrn hrl hins hchars hchr hlt hdn hdo hsm hz1 hz2 hX hk hVs hV hcell n1 s1 hcg hcs hcl
  conv => arg 2; whnf
  conv => arg 4; dsimp only
  go_upto_region 72 with fail
  rename_i Kn hKn
  have HKN : Hid (∀ a w, Code.wp Ybad.prog rest73 (bodyPost Ybad.prog Ybad.f3 (lawPost w0)) a w → Kn a w) := hKn
  clear hKn
  go_wp2
  have hlb := HL.out
  have hX := HF.out
  refine HKN.out _ _ (s73 I HSM.out w0 V HI.out d ((HT.out.kept (kept_xfr hX)).mono hX.size) (HB.out.trans ((xfr_below hX).mono HB.out.size)) W.heap.size d.nA bC cC bra brn brl bs cc HK.out (fun i hi => hX.keep (HRA.out i hi)) (fun i hi => hX.keep (HRN.out i hi)) (fun i hi => hX.keep (HRL.out i hi)) HINS.out (fun i hi => hX.keep (HCH.out i hi)) (fun i hi j hj => hX.keep (HCR.out i hi j hj)) ⟨HVS.out, Nat.lt_of_lt_of_le hlb.1 hX.size, Nat.lt_of_lt_of_le hlb.2.1 hX.size, Nat.lt_of_lt_of_le hlb.2.2.1 hX.size, Nat.lt_of_lt_of_le hlb.2.2.2 hX.size⟩ HN.out HO.out)
end Go.Proofs.YbulkdhcgDoor
