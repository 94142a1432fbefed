/-
  The law's last loop.
-/
import Derived.Test.YbulkdhacDoorPrev
namespace Go.Proofs.YbulkdhacDoor
open Go.RowKit Floats
attribute [local go_sem] run_store_flt alloc_drewN setCell_drewN

/-- the first region of a code. -/
def firstReg : Code → Option Nat
  | .region i _ _ => some i
  | .seq a b => match firstReg a with
    | some i => some i
    | none => firstReg b
  | .block _ c => firstReg c
  | .scope c => firstReg c
  | .loop c => firstReg c
  | _ => none
/-- the code from region n on. -/
def restFrom (n : Nat) : Code → Option Code
  | .seq a b => if firstReg (.seq a b) = some n then some (.seq a b) else match restFrom n a with
    | some c => some c
    | none => restFrom n b
  | .block _ c => restFrom n c
  | .scope c => restFrom n c
  | .loop c => restFrom n c
  | .cond _ a b => match restFrom n a with
    | some c => some c
    | none => restFrom n b
  | _ => none
noncomputable def rest60 : Code := (Ybad.f3.body.bind (restFrom 60)).getD .skip

abbrev L4 (w : World) (A : Nat → Value) (ec : List Value) (B : Nat → Value) (a c : Nat) (ev : List Value) (m : Nat) (mm : Nat → Nat) (k x z1 z2 : Nat) (W : World) : Prop :=
  W.cell? ⟨w.heap.size + 1 + 1, 1 + k, none⟩ = some (.float .f64 x) ∧ W.cell? ⟨w.heap.size + 1 + 1, 20 + k, none⟩ = some (.float .f64 (absB z1)) ∧ W.cell? ⟨w.heap.size + 1 + 1, 39 + k, none⟩ = some (.float .f64 z2) ∧ HeldM w W A ec B a c ev m mm
theorem L4.drewN {w : World} {A : Nat → Value} {ec : List Value} {B : Nat → Value} {a c : Nat} {ev : List Value} {m : Nat} {mm : Nat → Nat} {k x z1 z2 : Nat} {W : World} (h : L4 w A ec B a c ev m mm k x z1 z2 W) (n : Nat) : L4 w A ec B a c ev m mm k x z1 z2 (W.drewN n) :=
  ⟨h.1, h.2.1, h.2.2.1, h.2.2.2.drewN n⟩
theorem L4.drew {w : World} {A : Nat → Value} {ec : List Value} {B : Nat → Value} {a c : Nat} {ev : List Value} {m : Nat} {mm : Nat → Nat} {k x z1 z2 : Nat} {W : World} (h : L4 w A ec B a c ev m mm k x z1 z2 W) : L4 w A ec B a c ev m mm k x z1 z2 W.drew := h.drewN 1

set_option maxRecDepth 100000 in
set_option maxHeartbeats 4000000 in
theorem tail60 (w W : World) (A : Nat → Value) (ec : List Value) (B : Nat → Value) (a c : Nat) (ev : List Value) (m : Nat) (mm bb qq : Nat → Nat) (A1 : Nat → Value)
    (HH : Hid (HeldM w W A ec B a c ev m mm)) (HD : Hid (Done B 19 mm bb qq A1)) (HBB : Hid (∀ i, i < 19 → floatBits .add .f64 (mm i) one64 = some (bb i))) (HQQ : Hid (∀ i, i < 19 → floatBits .quo .f64 one64 (bb i) = some (qq i)))
    (v0 v1 v2 v3 v4 v5 v6 v8 v9 v10 v11 v12 v13 v14 v16 v17 v18 v19 v20 v21 v22 v23 v24 v25 v26 v27 v28 v29 v30 v31 v32 v33 v34 v35 v36 v37 v38 v39 v40 v41 v42 v43 v44 v45 v46 v47 v48 v49 v50 v51 v52 v53 v54 v55 v56 v57 v58 v59 v60 v61 v62 v63 v64 v65 v66 v67 v68 v69 v70 v71 v72 v73 v74 v75 v76 v77 v78 v79 v80 v81 v82 v83 v84 v85 v86 v87 v88 v89 v90 v91 v92 v93 v94 v95 v96 v97 v98 v99 v100 v101 v102 v103 v104 v105 v106 v107 v108 v109 v110 v111 v112 v113 v114 v115 v116 v117 v118 v119 v120 v121 v122 v123 v124 v125 v126 v127 v128 v129 v130 v131 v132 v133 v134 v135 v136 v137 v138 v139 v140 v141 v142 v143 v144 v145 v146 v147 v148 v149 v150 v151 v152 v153 v154 v155 v156 v157 v158 v159 v160 v161 v162 v163 v164 v165 v166 v167 v168 v169 v170 v171 v172 v173 v174 v175 v176 v177 v178 v179 v180 v181 v182 v183 v184 v185 v186 v187 v188 v189 v190 v191 v192 v193 v194 v195 v196 v197 v198 v199 v200 v201 v202 v203 v204 v205 v206 v207 v208 v209 v210 v211 v212 v213 v214 v215 v216 v217 v218 v219 v220 v221 v222 v223 v224 v225 v226 v227 v228 v229 v230 v231 v232 v233 v234 v235 v236 v237 v238 v239 v240 v241 v242 v243 v244 v245 v246 v247 v248 v249 v250 v251 v252 v253 v254 v255 v256 v257 v258 v259 v260 v261 v262 v263 v264 v265 v266 v267 v268 v269 v270 v271 v272 v273 v274 v275 v276 v277 v278 v279 v280 v281 v282 v283 v284 v285 v286 v287 v288 v289 v290 v291 v292 v293 v294 v295 v296 v297 v298 v299 v300 v301 v302 v303 v304 v305 v306 v307 v308 v309 v310 v311 v312 v313 v314 v315 v316 v317 v318 v319 v320 v321 v322 v323 v324 v325 v326 v327 v328 v329 v330 v331 v332 v333 v334 v335 v336 v337 v338 v339 v340 v341 v342 v343 v344 v345 v346 v347 v348 v349 v350 v351 v352 v353 v354 v355 v356 v357 v358 v359 v360 v361 v362 v363 v364 v365 v366 v367 v368 v369 v370 v371 v372 v373 v374 v375 v376 v377 v378 v379 v380 v381 v382 v383 v384 v385 v386 v387 v388 v389 v390 v391 v392 v393 v394 v395 v396 v397 v398 v399 v400 v401 v402 v403 v404 : Value) :
    Code.wp Ybad.prog rest60 (bodyPost Ybad.prog Ybad.f3 fun e w' => e = .returned (.bool true) ∧ Below w.heap.size w w') ⟨#[v0, v1, v2, v3, v4, v5, v6, .pointer (some ⟨w.heap.size + 1 + 1, 0, none⟩), v8, v9, v10, v11, v12, v13, v14, .pointer (some ⟨m, 0, none⟩), v16, v17, v18, v19, v20, v21, v22, v23, v24, v25, v26, v27, v28, v29, v30, v31, v32, v33, v34, v35, v36, v37, v38, v39, v40, v41, v42, v43, v44, v45, v46, v47, v48, v49, v50, v51, v52, v53, v54, v55, v56, v57, v58, v59, v60, v61, v62, v63, v64, v65, v66, v67, v68, v69, v70, v71, v72, v73, v74, v75, v76, v77, v78, v79, v80, v81, v82, v83, v84, v85, v86, v87, v88, v89, v90, v91, v92, v93, v94, v95, v96, v97, v98, v99, v100, v101, v102, v103, v104, v105, v106, v107, v108, v109, v110, v111, v112, v113, v114, v115, v116, v117, v118, v119, v120, v121, v122, v123, v124, v125, v126, v127, v128, v129, v130, v131, v132, v133, v134, v135, v136, v137, v138, v139, v140, v141, v142, v143, v144, v145, v146, v147, v148, v149, v150, v151, v152, v153, v154, v155, v156, v157, v158, v159, v160, v161, v162, v163, v164, v165, v166, v167, v168, v169, v170, v171, v172, v173, v174, v175, v176, v177, v178, v179, v180, v181, v182, v183, v184, v185, v186, v187, v188, v189, v190, v191, v192, v193, v194, v195, v196, v197, v198, v199, v200, v201, v202, v203, v204, v205, v206, v207, v208, v209, v210, v211, v212, v213, v214, v215, v216, v217, v218, v219, v220, v221, v222, v223, v224, v225, v226, v227, v228, v229, v230, v231, v232, v233, v234, v235, v236, v237, v238, v239, v240, v241, v242, v243, v244, v245, v246, v247, v248, v249, v250, v251, v252, v253, v254, v255, v256, v257, v258, v259, v260, v261, v262, v263, v264, v265, v266, v267, v268, v269, v270, v271, v272, v273, v274, v275, v276, v277, v278, v279, v280, v281, v282, v283, v284, v285, v286, v287, v288, v289, v290, v291, v292, v293, v294, v295, v296, v297, v298, v299, v300, v301, v302, v303, v304, v305, v306, v307, v308, v309, v310, v311, v312, v313, v314, v315, v316, v317, v318, v319, v320, v321, v322, v323, v324, v325, v326, v327, v328, v329, v330, v331, v332, v333, v334, v335, v336, v337, v338, v339, v340, v341, v342, v343, v344, v345, v346, v347, v348, v349, v350, v351, v352, v353, v354, v355, v356, v357, v358, v359, v360, v361, v362, v363, v364, v365, v366, v367, v368, v369, v370, v371, v372, v373, v374, v375, v376, v377, v378, v379, v380, v381, v382, v383, v384, v385, v386, v387, v388, v389, v390, v391, v392, v393, v394, v395, v396, v397, v398, v399, v400, v401, v402, v403, v404], []⟩ W := by
  conv => arg 2; whnf
  go_wp2_with fail
  go_loopg [16] 19 (fun g i wr => ∃ k : Nat, k + g = 19 ∧ i = .int .i64 k ∧ HeldM w wr A ec B a c ev m mm)
  case atStart => exact ⟨0, by omega, rfl, HH.out⟩
  case round =>
    clear HH
    obtain ⟨k, hk, rfl, h1⟩ := hrel
    have H1 : Hid (HeldM w wr A ec B a c ev m mm) := h1
    have HK : Hid (k + gk = 19) := hk
    clear hk
    by_cases hlt : k < 19
    · have i1 : (0 : Int) ≤ (k : Int) := by omega
      have i2 : (k : Int) < 19 := by omega
      obtain ⟨z1, hs1, hz1⟩ := HD.out.z k hlt
      obtain ⟨z2, hs2, hz2⟩ := HD.out.l k hlt
      have HS1 : Hid (Sim (logO (qq k)) z1) := hs1
      have HS2 : Hid (Sim (logO (bb k)) z2) := hs2
      have HL : Hid (L4 w A ec B a c ev m mm k (bb k) z1 z2 wr) := ⟨(h1.h.h.y1.cell (1 + k) (by omega)).trans (by rw [HD.out.b k hlt]), (h1.h.h.y1.cell (20 + k) (by omega)).trans (by rw [hz1]), (h1.h.h.y1.cell (39 + k) (by omega)).trans (by rw [hz2]), h1⟩
      have cm := h1.cell k hlt
      have ha := add_run (HBB.out k hlt)
      have hq := quo_run (HQQ.out k hlt)
      clear h1 hs1 hs2 hz1 hz2
      go_upto_region 64 with fail
      clear cm ha
      obtain ⟨x, hx⟩ : ∃ x, x = bb k := ⟨_, rfl⟩
      obtain ⟨q, hqk⟩ : ∃ q, q = qq k := ⟨_, rfl⟩
      rw [← hx] at HS2 HL hq ⊢
      rw [← hqk] at HS1 hq
      clear hx hqk
      go_region_held3 (fun W => W.cell? ⟨w.heap.size + 1 + 1, 1 + k, none⟩ = some (.float .f64 x) ∧ W.cell? ⟨w.heap.size + 1 + 1, 20 + k, none⟩ = some (.float .f64 (absB z1)) ∧ W.cell? ⟨w.heap.size + 1 + 1, 39 + k, none⟩ = some (.float .f64 z2) ∧ HeldM w W A ec B a c ev m mm)
        ((with_reducible (first | assumption | exact HL.out.drew | exact HL.out.drewN _)))
        (first
          | (go_at_call_of 10 (Value.float FloatKind.f64 q); refine (log_any q _).mono ?_; rintro e w' ⟨t1, q1, rfl, ht1, rfl⟩; have HT1 : Hid (Sim (logO q) t1) := ht1; clear ht1)
          | (go_at_call_of 10 (Value.float FloatKind.f64 x); refine (log_any x _).mono ?_; rintro e w' ⟨t2, q2, rfl, ht2, rfl⟩; have HT2 : Hid (Sim (logO x) t2) := ht2; clear ht2)
          | (go_at_call 9; refine (abs_any _ _).mono ?_; rintro e w' ⟨rfl, rfl⟩)
          | (go_at_call_of 8 (Value.float FloatKind.f64 (absB z1)); obtain ⟨o1, ho1, ho2⟩ := sim_abs HS1.out HT1.out; refine (eq_any o1 _ _ ho1 ho2 _).mono ?_; clear ho1 ho2; rintro e w' ⟨rfl, rfl⟩)
          | (go_at_call_of 8 (Value.float FloatKind.f64 z2); refine (eq_any _ _ _ HS2.out HT2.out _).mono ?_; rintro e w' ⟨rfl, rfl⟩)
          | (go_at_call_of 8 (Value.float FloatKind.f64 x); refine (eq_self x _).mono ?_; rintro e w' ⟨rfl, rfl⟩))
      go_wp2
      go_roundg (gk - 1)
      case measure => have := HK.out; omega
      case rel => exact ⟨k + 1, by have := HK.out; omega, by go_num, H1.out.drewN _⟩
    · obtain rfl : k = 19 := by have := HK.out; omega
      clear h1 HK hlt
      go_wp2
      go_ret
      exact ⟨rfl, H1.out.h.h.bel⟩
end Go.Proofs.YbulkdhacDoor
