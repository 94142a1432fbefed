/-
  The law from region 92 on: the text that is wanted.
-/
import Derived.Test.YbulkdhcgDoorLawS103
namespace Go.Proofs.YbulkdhcgDoor
open Go.RowKit

theorem XFr.keep {w W : World} (h : XFr w W (fun _ => False)) {p : Addr} {v : Value} (hc : w.cell? p = some v) : W.cell? p = some v := ((xfr_below h).cell (World.block_lt_of_cell? w p hc)).trans hc
theorem SetAt.mono {w : World} {B B' bd od : Nat} {S : Nat → Bool} (h : SetAt w B bd od S) (hB : B ≤ B') : SetAt w B' bd od S := by
  refine ⟨Nat.lt_of_lt_of_le h.lt hB, ?_⟩
  rcases h.ex with h1 | ⟨bl, L, c, a, n, c0, wd, c1, hL, hL2, c2, hn, hw, hS, hb1, hb2⟩
  · exact Or.inl h1
  · exact Or.inr ⟨bl, L, c, a, n, c0, wd, c1, hL, hL2, c2, hn, hw, hS, Nat.lt_of_lt_of_le hb1 hB, fun b e => Nat.lt_of_lt_of_le (hb2 b e) hB⟩
theorem TreeD.At.mono {d : TreeD} {B B' : Nat} {w : World} (h : d.At B w) (hB : B ≤ B') : d.At B' w :=
  have l : ∀ {k : Nat}, k < B → k < B' := fun hk => Nat.lt_of_lt_of_le hk hB
  ⟨l h.l0, l h.l1, l h.l2, l h.l3, l h.l4, l h.l5, l h.l6, fun a ha => ⟨l (h.l7 a ha).1, l (h.l7 a ha).2.1, l (h.l7 a ha).2.2⟩, h.actors, h.runs, h.chunk, h.nR, h.leaves, h.lv, h.nL, h.tab, h.txt, h.ok, h.y, fun a ha => (h.set a ha).mono hB, h.ins, h.xlt, h.len, h.nA⟩
theorem kept_xfr {w W : World} (h : XFr w W (fun _ => False)) : Kept (fun k _ => k < w.heap.size) w W := ⟨h.os, h.tape, h.output, h.size, fun k _ ho hk => (h.blk k hk (fun e => e)).trans ho⟩
theorem TreeD.At.xfr {d : TreeD} {w W : World} (h : d.At w.heap.size w) (hx : XFr w W (fun _ => False)) : d.At W.heap.size W := (h.kept (kept_xfr hx)).mono hx.size

theorem ch_len (c : Nat) : (ch c).length ≤ 4 := by
  unfold ch
  have h := Nat.mod_lt c (y := 6) (by omega)
  generalize c % 6 = z at h ⊢
  match z, h with
  | 0, _ => decide
  | 1, _ => decide
  | 2, _ => decide
  | 3, _ => decide
  | 4, _ => decide
  | 5, _ => decide
theorem Inp.cs_len (I : Inp) (a c : Nat) : ((I.cs a).getD c []).length ≤ 4 := by
  rw [List.getD_eq_getElem?_getD]
  cases h : (I.cs a)[c]? with
  | none => simp
  | some l =>
    have hm : l ∈ I.cs a := List.mem_of_getElem? h
    unfold Inp.cs at hm
    split at hm
    · obtain ⟨j, _, rfl⟩ := List.mem_map.1 hm
      simpa using ch_len _
    · obtain rfl := List.mem_singleton.1 hm
      simp
/-- the characters of run i, from its first up to c. -/
def Inp.part (I : Inp) (D : Nat → Nat → Bool) (i c : Nat) : List UInt8 := ((List.range' (I.rn i) (c - I.rn i)).filter fun k => !D (I.ra i) k).flatMap fun k => (I.cs (I.ra i)).getD k []
def Inp.q (I : Inp) (i : Nat) : Nat := min (I.rn i + I.rl i) (I.ins (I.ra i))
/-- what the first n runs show. -/
def Inp.want (I : Inp) (D : Nat → Nat → Bool) (n : Nat) : List UInt8 := (List.range n).flatMap fun i => I.part D i (I.q i)
theorem Inp.want_succ (I : Inp) (D : Nat → Nat → Bool) (n : Nat) : I.want D (n + 1) = I.want D n ++ I.part D n (I.q n) := by
  unfold Inp.want; rw [List.range_succ, List.flatMap_append]; simp
theorem Inp.part_start (I : Inp) (D : Nat → Nat → Bool) (i : Nat) : I.part D i (I.rn i) = [] := by unfold Inp.part; simp
theorem Inp.part_step (I : Inp) (D : Nat → Nat → Bool) (i : Nat) {c : Nat} (h : I.rn i ≤ c) : I.part D i (c + 1) = I.part D i c ++ (if D (I.ra i) c then [] else (I.cs (I.ra i)).getD c []) := by
  unfold Inp.part
  have e : c + 1 - I.rn i = (c - I.rn i) + 1 := by omega
  rw [e, List.range'_concat, List.filter_append, List.flatMap_append]
  have e2 : I.rn i + 1 * (c - I.rn i) = c := by omega
  rw [e2]
  cases hd : D (I.ra i) c <;> simp [hd]
theorem Inp.part_len (I : Inp) (D : Nat → Nat → Bool) (i : Nat) : ∀ e, (I.part D i (I.rn i + e)).length ≤ 4 * e
  | 0 => by rw [Nat.add_zero, I.part_start]; simp
  | e + 1 => by
    have h := I.part_len D i e
    rw [← Nat.add_assoc, I.part_step D i (by omega), List.length_append]
    have h2 := I.cs_len (I.ra i) (I.rn i + e)
    split
    · simp; omega
    · omega
theorem Inp.part_le {I : Inp} (hs : I.Sm) (D : Nat → Nat → Bool) (i : Nat) {c : Nat} (hc : c ≤ I.rn i + I.rl i) : (I.part D i c).length ≤ 16384 := by
  have h1 := I.rl_le i
  have h2 := Inp.tot_le hs (I.ra i)
  by_cases h : I.rn i ≤ c
  · have h3 := I.part_len D i (c - I.rn i)
    rw [show I.rn i + (c - I.rn i) = c by omega] at h3
    omega
  · have e : I.part D i c = [] := by unfold Inp.part; rw [show c - I.rn i = 0 by omega]; simp
    rw [e]; simp
theorem Inp.want_le {I : Inp} (hs : I.Sm) (D : Nat → Nat → Bool) : ∀ n, (I.want D n).length ≤ n * 16384
  | 0 => by simp [Inp.want]
  | n + 1 => by
    have h := Inp.want_le hs D n
    have h2 := Inp.part_le hs D n (c := I.q n) (by unfold Inp.q; omega)
    rw [I.want_succ, List.length_append]; omega
theorem Inp.part_end (I : Inp) (D : Nat → Nat → Bool) (i : Nat) {c : Nat} (hc : c = I.q i ∨ (c = I.rn i ∧ I.q i ≤ c)) : I.part D i c = I.part D i (I.q i) := by
  rcases hc with h1 | ⟨h1, h2⟩
  · rw [h1]
  · rw [h1, I.part_start]
    unfold Inp.part
    rw [show I.q i - I.rn i = 0 by omega]; simp
theorem bcs_append (l m : List UInt8) : bcs (l ++ m) = bcs l ++ bcs m := by unfold bcs; simp
theorem bcs_length (l : List UInt8) : (bcs l).length = l.length := by unfold bcs; simp

/-- what the loops over the runs read. -/
structure Rd (I : Inp) (D : Nat → Nat → Bool) (W : World) (bC bra brn brl bi bG : Nat) (bs cc bg : Nat → Nat) : Prop where
  ra : ∀ i, i < I.n1 → W.cell? ⟨bra, i, none⟩ = some (.int .u32 (I.ra i : Nat))
  rn : ∀ i, i < I.n1 → W.cell? ⟨brn, i, none⟩ = some (.int .u32 (I.rn i : Nat))
  rl : ∀ i, i < I.n1 → W.cell? ⟨brl, i, none⟩ = some (.int .u32 (I.rl i : Nat))
  ins : ∀ a, a < I.nA → W.cell? ⟨bi, a, none⟩ = some (.int .u32 (I.ins a : Nat))
  gone : ∀ a, a < I.nA → W.cell? ⟨bG, a, none⟩ = some (.slice (some ⟨bg a, 0, none⟩) (I.tot a) (I.tot a))
  go : ∀ a, a < I.nA → ∀ y, y < I.tot a → W.cell? ⟨bg a, y, none⟩ = some (.bool (D a y))
  chars : ∀ a, a < I.nA → W.cell? ⟨bC, a, none⟩ = some (.slice (some ⟨bs a, 0, none⟩) (I.tot a) (cc a))
  chr : ∀ a, a < I.nA → ∀ j, j < I.tot a → W.cell? ⟨bs a, j, none⟩ = some (.string (st ((I.cs a).getD j [])))
theorem Rd.xfr {I : Inp} {D : Nat → Nat → Bool} {w W : World} {bC bra brn brl bi bG : Nat} {bs cc bg : Nat → Nat} (h : Rd I D w bC bra brn brl bi bG bs cc bg) (hx : XFr w W (fun _ => False)) : Rd I D W bC bra brn brl bi bG bs cc bg :=
  ⟨fun i hi => hx.keep (h.ra i hi), fun i hi => hx.keep (h.rn i hi), fun i hi => hx.keep (h.rl i hi), fun i hi => hx.keep (h.ins i hi), fun i hi => hx.keep (h.gone i hi), fun a ha y hy => hx.keep (h.go a ha y hy), fun i hi => hx.keep (h.chars i hi), fun a ha y hy => hx.keep (h.chr a ha y hy)⟩
theorem own_xfr {w W : World} {C e s n : Nat} {v : Value} {xs : List Value} (h : w.ownsRow C e s v n xs) (hb : ∀ g, v.ownBlock = some g → W.heap[g]? = w.heap[g]?) : W.ownsRow C e s v n xs := by
  obtain ⟨h1, h2 | ⟨g, cap, cur, hv, h3, h4, h5⟩⟩ := h
  · exact ⟨h1, Or.inl h2⟩
  · exact ⟨h1, Or.inr ⟨g, cap, cur, hv, h3, (hb g (by rw [hv]; rfl)).trans h4, h5⟩⟩
noncomputable def rest92 : Code := (Ybad.f3.body.bind (restFrom 92)).getD .skip
set_option maxRecDepth 100000 in
set_option maxHeartbeats 8000000 in
theorem s92 (I : Inp) (hsm : I.Sm) (w0 W : World) (d : TreeD) (hA : d.At W.heap.size W) (hb : Below w0.heap.size w0 W) (bk ck bC cC bra brn brl bG cG : Nat) (bs cc bg : Nat → Nat) (D : Nat → Nat → Bool) (hk : ∀ a, a < d.nA → W.cell? ⟨bk, a, none⟩ = some (.int .u32 (d.ins a : Nat))) (hR : Rd I D W bC bra brn brl d.bi bG bs cc bg) (hdn : d.nA = I.nA) (hdo : d.out d.xs = I.want D I.n1)
    {v0 v1 v2 v3 v4 v5 v6 v7 v8 v9 v10 v11 v13 v14 v15 v19 v20 v21 v22 v23 v24 v25 v26 v27 v28 v32 v33 v34 v35 v36 v37 v38 v39 v41 v45 v46 v47 v48 v49 v50 v51 v52 v53 v54 v55 v56 v57 v58 v59 v60 v61 v62 v63 v64 v65 v66 v67 v68 v69 v70 v71 v72 v73 v74 v75 v76 v77 v78 v79 v80 v81 v82 v83 v84 v85 v86 v87 v88 v89 v90 v91 v92 v93 v94 v95 v96 v97 v98 v99 v100 v101 v102 v103 v104 v105 v106 v107 v108 v109 v110 v111 v112 v113 v114 v115 v116 v117 v118 v119 v120 v121 v122 v123 v124 v125 v126 v127 v128 v129 v130 v131 v132 v133 v134 v135 v136 v137 v138 v139 v140 v141 v142 v143 v144 v145 v146 v147 v148 v149 v150 v151 v152 v153 v154 v155 v156 v157 v158 v159 v160 v161 v162 v163 v164 v165 v166 v167 v168 v169 v170 v171 v172 v173 v174 v175 v176 v177 v178 v179 v180 v181 v182 v183 v184 v185 v186 v187 v188 v189 v190 v191 v192 v193 v194 v195 v196 v197 v198 v199 v200 v201 v202 v203 v204 v205 v206 v207 v208 v209 v210 v211 v212 v213 v214 v215 v216 v217 v218 v219 v220 v221 v222 v223 v224 v225 v226 v227 v228 v229 v230 v231 v232 v233 v234 v235 v236 v237 v238 v239 v240 v241 v242 v243 v244 v245 v246 v247 v248 v249 v250 v251 v252 v253 v254 v255 v256 v257 v258 v259 v260 v261 v262 v263 v264 v265 v266 v267 v268 v269 v270 v271 v272 v273 v274 v275 v276 v277 v278 v279 v280 v281 v282 v283 v284 v285 v286 v287 v288 v289 v290 v291 v292 v293 v294 v295 v296 v297 v298 v299 v300 v301 v302 v303 v304 v305 v306 v307 v308 v309 v310 v311 v312 v313 v314 v315 v316 v317 v318 v319 v320 v321 v322 v323 v324 v325 v326 v327 v328 v329 v330 v331 v332 v333 v334 v335 v336 v337 v338 v339 v340 v341 v342 v343 v344 v345 v346 v347 v348 v349 v350 v351 v352 v353 v354 v355 v356 v357 v358 v359 v360 v361 v362 v363 v364 v365 v366 v367 v368 v369 v370 v371 v372 v373 v374 v375 v376 v377 v378 v379 v380 v381 v382 v383 v384 v385 v386 v387 v388 v389 v390 v391 v392 v393 v394 v395 v396 v397 v398 v399 v400 v401 v402 v403 v404 v405 v406 v407 v408 v409 v410 v411 v412 v413 v414 v415 v416 v417 v418 v419 v420 v421 v422 v423 v424 v425 v426 v427 v428 v429 v430 v431 v432 v433 v434 v435 v436 v437 v438 v439 v440 v441 v442 v443 v444 v445 v446 v447 v448 v449 v450 v451 v452 v453 v454 v455 v456 v457 v458 v459 v460 v461 v462 v463 v464 v465 v466 : Value} :
    Code.wp Ybad.prog rest92 (bodyPost Ybad.prog Ybad.f3 (lawPost w0)) ⟨#[v0, v1, v2, v3, v4, v5, v6, v7, v8, v9, v10, v11, .bool false, v13, v14, v15, .int .i64 (d.nA : Nat), .slice (some ⟨bC, 0, none⟩) d.nA cC, .pointer (some ⟨d.bt, 0, none⟩), v19, v20, v21, v22, v23, v24, v25, v26, v27, v28, .slice (some ⟨bra, 0, none⟩) I.n1 I.n1, .slice (some ⟨brn, 0, none⟩) I.n1 I.n1, .slice (some ⟨brl, 0, none⟩) I.n1 I.n1, v32, v33, v34, v35, v36, v37, v38, v39, .slice (some ⟨d.bi, 0, none⟩) d.nA d.ci, v41, .slice (some ⟨bk, 0, none⟩) d.nA ck, .slice (some ⟨d.bd, 0, none⟩) d.nA d.cd, .slice (some ⟨bG, 0, none⟩) d.nA cG, v45, v46, v47, v48, v49, v50, v51, v52, v53, v54, v55, v56, v57, v58, v59, v60, v61, v62, v63, v64, v65, v66, v67, v68, v69, v70, v71, v72, v73, v74, v75, v76, v77, v78, v79, v80, v81, v82, v83, v84, v85, v86, v87, v88, v89, v90, v91, v92, v93, v94, v95, v96, v97, v98, v99, v100, v101, v102, v103, v104, v105, v106, v107, v108, v109, v110, v111, v112, v113, v114, v115, v116, v117, v118, v119, v120, v121, v122, v123, v124, v125, v126, v127, v128, v129, v130, v131, v132, v133, v134, v135, v136, v137, v138, v139, v140, v141, v142, v143, v144, v145, v146, v147, v148, v149, v150, v151, v152, v153, v154, v155, v156, v157, v158, v159, v160, v161, v162, v163, v164, v165, v166, v167, v168, v169, v170, v171, v172, v173, v174, v175, v176, v177, v178, v179, v180, v181, v182, v183, v184, v185, v186, v187, v188, v189, v190, v191, v192, v193, v194, v195, v196, v197, v198, v199, v200, v201, v202, v203, v204, v205, v206, v207, v208, v209, v210, v211, v212, v213, v214, v215, v216, v217, v218, v219, v220, v221, v222, v223, v224, v225, v226, v227, v228, v229, v230, v231, v232, v233, v234, v235, v236, v237, v238, v239, v240, v241, v242, v243, v244, v245, v246, v247, v248, v249, v250, v251, v252, v253, v254, v255, v256, v257, v258, v259, v260, v261, v262, v263, v264, v265, v266, v267, v268, v269, v270, v271, v272, v273, v274, v275, v276, v277, v278, v279, v280, v281, v282, v283, v284, v285, v286, v287, v288, v289, v290, v291, v292, v293, v294, v295, v296, v297, v298, v299, v300, v301, v302, v303, v304, v305, v306, v307, v308, v309, v310, v311, v312, v313, v314, v315, v316, v317, v318, v319, v320, v321, v322, v323, v324, v325, v326, v327, v328, v329, v330, v331, v332, v333, v334, v335, v336, v337, v338, v339, v340, v341, v342, v343, v344, v345, v346, v347, v348, v349, v350, v351, v352, v353, v354, v355, v356, v357, v358, v359, v360, v361, v362, v363, v364, v365, v366, v367, v368, v369, v370, v371, v372, v373, v374, v375, v376, v377, v378, v379, v380, v381, v382, v383, v384, v385, v386, v387, v388, v389, v390, v391, v392, v393, v394, v395, v396, v397, v398, v399, v400, v401, v402, v403, v404, v405, v406, v407, v408, v409, v410, v411, v412, v413, v414, v415, v416, v417, v418, v419, v420, v421, v422, v423, v424, v425, v426, v427, v428, v429, v430, v431, v432, v433, v434, v435, v436, v437, v438, v439, v440, v441, v442, v443, v444, v445, v446, v447, v448, v449, v450, v451, v452, v453, v454, v455, v456, v457, v458, v459, v460, v461, v462, v463, v464, v465, v466], []⟩ W := by
  have HA : Hid (d.At W.heap.size W) := hA
  have HB : Hid (Below w0.heap.size w0 W) := hb
  have HK : Hid (∀ a, a < d.nA → W.cell? ⟨bk, a, none⟩ = some (.int .u32 (d.ins a : Nat))) := hk
  have HR : Hid (Rd I D W bC bra brn brl d.bi bG bs cc bg) := hR
  have HN : Hid (d.nA = I.nA) := hdn
  have HO : Hid (d.out d.xs = I.want D I.n1) := hdo
  have HSM : Hid I.Sm := hsm
  have hn1 := hsm.n1
  have hnA : d.nA ≤ 64 := by rw [hdn]; exact Inp.nA_le hsm
  obtain ⟨i5, hi5, hz1, hz2, hz3⟩ := info_parts info5
  have HI5 : Hid (Ybad.prog.info? 5 = some i5) := hi5
  have HZ1 : Hid (i5.zero = some (.int .u8 0)) := hz1
  have HZ2 : Hid (i5.size = 1) := hz2
  have HZ3 : Hid (i5.bytes = 1) := hz3
  clear hA hb hk hR hdn hdo hsm hi5 hz1 hz2 hz3
  conv => arg 2; whnf
  conv => arg 4; dsimp only
  go_wp2
  go_loopw [52, 395] (fun v x wr => ∃ (i n : Nat) (vw : Value), v = vw ∧ x = .int .i64 i ∧ i ≤ I.n1 ∧ wr.ownsRow W.heap.size 5 1 v n (bcs (I.want D i)) ∧ XFr W wr (fun _ => False)) (fun _ x _ => I.n1 - (intOf x).toNat)
  case atStart => exact ⟨0, 0, _, rfl, rfl, Nat.zero_le _, World.ownsRow_nil _ _ _ _, XFr.refl _ _⟩
  case round =>
    rename_i Kn hKn
    have HKN : Hid (∀ a w, Code.wp Ybad.prog rest103 (bodyPost Ybad.prog Ybad.f3 (lawPost w0)) a w → Kn a w) := hKn
    clear hKn
    obtain ⟨i, n, vw, hv, rfl, hi, ho, hx⟩ := hrel
    have hv2 := hv.symm
    subst hv2
    clear hv
    obtain ⟨wo, rfl⟩ : ∃ wo, wo = wr := ⟨_, rfl⟩
    have HX : Hid (XFr W wo (fun _ => False)) := hx
    have HOW : Hid (wo.ownsRow W.heap.size 5 1 vw n (bcs (I.want D i))) := ho
    clear hx ho
    by_cases h : i < I.n1
    · have e1 : (i : Int) < (I.n1 : Int) := by omega
      have c1 := (HR.out.xfr HX.out).ra i h
      have c2 := (HR.out.xfr HX.out).rn i h
      go_wp2
      clear c1 c2
      go_loopw [52, 55] (fun v x wx => ∃ (c m : Nat) (vx : Value), v = vx ∧ x = .int .u32 c ∧ I.rn i ≤ c ∧ (c ≤ I.q i ∨ c = I.rn i) ∧ wx.ownsRow W.heap.size 5 1 v m (bcs (I.want D i ++ I.part D i c)) ∧ XFr W wx (fun _ => False)) (fun _ x _ => I.rn i + I.rl i - (intOf x).toNat)
      case atStart => exact ⟨I.rn i, n, _, rfl, rfl, Nat.le_refl _, Or.inr rfl, by rw [I.part_start, List.append_nil]; exact HOW.out, HX.out⟩
      case round =>
        clear HX HOW
        obtain ⟨c, m, vx, hv, rfl, hc1, hc2, ho, hx⟩ := hrel
        have hv2 := hv.symm
        subst hv2
        clear hv
        obtain ⟨wq, rfl⟩ : ∃ wq, wq = wr := ⟨_, rfl⟩
        have HX : Hid (XFr W wq (fun _ => False)) := hx
        have HOW : Hid (wq.ownsRow W.heap.size 5 1 vx m (bcs (I.want D i ++ I.part D i c))) := ho
        clear hx ho
        have hrl := I.rl_le i
        have htot := Inp.tot_le HSM.out (I.ra i)
        have hra := I.ra_lt i
        have hraN : I.ra i < d.nA := by rw [HN.out]; exact hra
        have c1 := (HR.out.xfr HX.out).rn i h
        have c2 := (HR.out.xfr HX.out).rl i h
        by_cases h1 : c < I.rn i + I.rl i
        · have c3 := (HR.out.xfr HX.out).ins (I.ra i) hra
          have g1 := (HR.out.xfr HX.out).gone (I.ra i) hra
          have g2 := (HR.out.xfr HX.out).go (I.ra i) hra c (by omega)
          have g3 := (HR.out.xfr HX.out).chars (I.ra i) hra
          have g4 := (HR.out.xfr HX.out).chr (I.ra i) hra c (by omega)
          have e2 : decide ((c : Int) < (I.rn i : Int) + (I.rl i : Int)) = true := decide_eq_true (by omega)
          obtain ⟨IN, hIN⟩ : ∃ IN, IN = I.ins (I.ra i) := ⟨_, rfl⟩
          rw [← hIN] at c3
          have HIN : Hid (IN = I.ins (I.ra i)) := hIN
          clear hIN
          by_cases h2 : c < IN
          · have e3 : decide ((c : Int) < (IN : Int)) = true := decide_eq_true (by omega)
            have hq : c + 1 ≤ I.q i := by unfold Inp.q; rw [← HIN.out]; omega
            have e4 : decide (c < IN) = true := decide_eq_true h2
            go_wp2
            go_quiet (fail)
            have HX2 : Hid (XFr W (wq.drewN nq) (fun _ => False)) := HX.out.drew _
            have HOW2 : Hid ((wq.drewN nq).ownsRow W.heap.size 5 1 vx m (bcs (I.want D i ++ I.part D i c))) := HOW.out
            have HN0 : Hid (m = (I.want D i ++ I.part D i c).length) := by have h5 := HOW.out.1; rw [bcs_length] at h5; show m = _; omega
            clear HX HOW HIN
            cases hD : D (I.ra i) c with
            | true =>
              rw [hD] at g2
              have HD : Hid (D (I.ra i) c = true) := hD
              clear hD
              go_wp2
              refine ⟨⟨c + 1, m, vx, rfl, by go_num, by omega, Or.inl hq, ?_, HX2.out⟩, by simp [intOf]; go_num⟩
              rw [I.part_step D i hc1, HD.out, if_pos rfl, List.append_nil]
              exact HOW2.out
            | false =>
              rw [hD] at g2
              have HD : Hid (D (I.ra i) c = false) := hD
              clear hD
              obtain ⟨cl, hcl⟩ : ∃ cl, cl = (I.cs (I.ra i)).getD c [] := ⟨_, rfl⟩
              have hcl4 : cl.length ≤ 4 := by rw [hcl]; exact I.cs_len _ _
              obtain ⟨s, hs⟩ : ∃ s, s = st cl := ⟨_, rfl⟩
              rw [← hcl, ← hs] at g4
              have HCL : Hid (cl = (I.cs (I.ra i)).getD c []) := hcl
              have HS : Hid (s = st cl) := hs
              have hsz : s.size = cl.length := by rw [hs]; exact st_size cl
              have hm : m ≤ 33554432 := by
                have h5 := HN0.out
                have h6 := Inp.want_le HSM.out D i
                have h7 := Inp.part_le HSM.out D i (c := c) (by omega)
                rw [List.length_append] at h5
                omega
              clear hcl hs
              go_wp2_with (refine Lib.wpList_append_own_string (P := Ybad.prog) _ (by rfl) (.tmp 435) (.tmp 442) 27 9 (by rfl) W.heap.size 5 i5 Ybad.underlying27 Ybad.underlying9 HI5.out HZ1.out HZ2.out HZ3.out vx m _ (by rfl) HOW2.out s (by rfl) (by unfold maxLen; omega) (by omega) HX2.out.size ?_)
              intro v' w' hown hgrow _
              have HX3 : Hid (XFr W w' (fun _ => False)) := HX2.out.grown hgrow (fun r e => Or.inr (HOW2.out.lt r e).1)
              have HOW3 : Hid (w'.ownsRow W.heap.size 5 1 v' (m + cl.length) (bcs (I.want D i ++ I.part D i (c + 1)))) := by
                rw [I.part_step D i hc1, HD.out, if_neg (by decide), ← List.append_assoc, bcs_append, ← HCL.out, ← strCells_st cl, ← HS.out]; exact hown
              clear hown hgrow HX2 HOW2 c1 c2 c3 g1 g2 g3 g4
              go_wp2
              exact ⟨⟨c + 1, m + cl.length, v', rfl, by go_num, by omega, Or.inl hq, HOW3.out, HX3.out⟩, by simp [intOf]; go_num⟩
          · have e3 : decide ((c : Int) < (IN : Int)) = false := decide_eq_false (by omega)
            have hq5 : I.q i = min (I.rn i + I.rl i) IN := by rw [HIN.out]; rfl
            have e4 : decide (c < IN) = false := decide_eq_false h2
            have hq6 : c = I.q i ∨ (c = I.rn i ∧ I.q i ≤ c) := by omega
            go_wp2
            go_quiet (fail)
            go_wp2
            refine ⟨⟨i + 1, m, vx, rfl, by go_num, by omega, ?_, HX.out.drew _⟩, by simp [intOf]; go_num⟩
            rw [I.want_succ, ← I.part_end D i (c := c) hq6]
            exact HOW.out
        · have e2 : decide ((c : Int) < (I.rn i : Int) + (I.rl i : Int)) = false := decide_eq_false (by omega)
          have hq6 : c = I.q i ∨ (c = I.rn i ∧ I.q i ≤ c) := by have h5 : I.q i ≤ I.rn i + I.rl i := by (unfold Inp.q; omega)
                                                                omega
          go_wp2
          go_quiet (fail)
          go_wp2
          refine ⟨⟨i + 1, m, vx, rfl, by go_num, by omega, ?_, HX.out.drew _⟩, by simp [intOf]; go_num⟩
          rw [I.want_succ, ← I.part_end D i (c := c) hq6]
          exact HOW.out
    · have e1 : ¬ (i : Int) < (I.n1 : Int) := by omega
      go_wp2
      have ei : i = I.n1 := by omega
      subst ei
      refine HKN.out _ _ (s103 w0 wo d (HA.out.xfr HX.out) (HB.out.trans ((xfr_below HX.out).mono HB.out.size)) bk ck (fun a ha => HX.out.keep (HK.out a ha)) W.heap.size n vw (by rw [HO.out]; exact HOW.out))
end Go.Proofs.YbulkdhcgDoor
