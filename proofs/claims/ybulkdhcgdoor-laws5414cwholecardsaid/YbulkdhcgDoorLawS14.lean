/-
  The law from region 14 on: the loop over the actors.
-/
import Derived.Test.YbulkdhcgDoorLawR26
import Derived.Test.YbulkdhcgDoorLawS35
namespace Go.Proofs.YbulkdhcgDoor
open Go.RowKit

/-- the first k characters of text n, as cells. -/
def cst (I : Inp) (n k : Nat) : List Value := (List.range k).map fun j => .string (st (ch (I.tz n j)))
theorem cst_succ (I : Inp) (n k : Nat) : cst I n (k + 1) = cst I n k ++ [.string (st (ch (I.tz n k)))] := by unfold cst; rw [List.range_succ, List.map_append]; rfl
theorem cst_all {I : Inp} {n : Nat} (h : n < I.n0) (h2 : 0 < I.tl n) : csv (I.cs n) = cst I n (I.tl n) ∧ I.tot n = I.tl n := by
  unfold Inp.tot csv cst Inp.cs
  rw [if_pos ⟨h, h2⟩]
  simp
theorem cs_x {I : Inp} {n : Nat} (h : ¬ (n < I.n0 ∧ 0 < I.tl n)) : I.cs n = [[120]] := by unfold Inp.cs; rw [if_neg h]
theorem info9 : (Ybad.prog.info? 9).map (fun i => (i.zero, i.size, i.bytes)) = some (some (.string ⟨#[]⟩), 1, 16) := by kernel_rfl
theorem A3.p26 {I : Inp} {w0 wo wx : World} {bC bt bA n : Nat} {bs cc bp bb bcap bm mcap : Nat → Nat} {tx : Nat → Mk} {g cap : Nat} (h : A3 I w0 bC bt bA n bs cc bp bb bcap bm mcap tx wo) (hsm : I.Sm) (hn : n < I.nA) (fr : XFr wo wx (fun _ => False)) (own : wx.ownsRow wo.heap.size 9 1 (.slice (some ⟨g, 0, none⟩) (I.tot n) cap) (I.tot n) (csv (I.cs n))) : P26 I wo bC bA bt n g cap (I.tot n) wx :=
  ⟨fr, own, rfl, Inp.tot_le hsm n, hn, h.tree, h.arest n (Nat.le_refl _) hn, h.afrz, h.crest n (Nat.le_refl _) hn, h.cfrz, h.o1, h.o2⟩
theorem A3.p26x {I : Inp} {w0 wo wx : World} {bC bt bA n : Nat} {bs cc bp bb bcap bm mcap : Nat → Nat} {tx : Nat → Mk} (h : A3 I w0 bC bt bA n bs cc bp bb bcap bm mcap tx wo) (hsm : I.Sm) (hn : n < I.nA) (fr : XFr wo wx (fun _ => False)) (hx : ¬ (n < I.n0 ∧ 0 < I.tl n)) : P26 I wo bC bA bt n wx.heap.size 1 1 (wx.alloc (.cells #[.string ⟨#[120]⟩] 9)) := by
  have e := cs_x hx
  have e2 : I.tot n = 1 := by unfold Inp.tot; rw [e]; rfl
  have h2 := h.p26 (wx := wx.alloc (.cells #[.string ⟨#[120]⟩] 9)) (g := wx.heap.size) (cap := 1) hsm hn (fr.alloc _) (by
    rw [e2, e]
    exact ⟨rfl, Or.inr ⟨wx.heap.size, 1, #[.string ⟨#[120]⟩], rfl, fr.size, World.alloc_heap_new wx _, by omega, by unfold maxLen; omega, rfl, rfl⟩⟩)
  rw [e2] at h2
  exact h2
theorem A3.p26c {I : Inp} {w0 wo wx : World} {bC bt bA n : Nat} {bs cc bp bb bcap bm mcap : Nat → Nat} {tx : Nat → Mk} {a : Option Addr} {c : Nat} (h : A3 I w0 bC bt bA n bs cc bp bb bcap bm mcap tx wo) (hsm : I.Sm) (hn : n < I.nA) (fr : XFr wo wx (fun _ => False)) (h0 : n < I.n0) (h1 : 0 < I.tl n) (own : wx.ownsRow wo.heap.size 9 1 (.slice a (I.tl n) c) (I.tl n) (cst I n (I.tl n))) : ∃ g, a = some ⟨g, 0, none⟩ ∧ P26 I wo bC bA bt n g c (I.tl n) wx := by
  obtain ⟨e1, e2⟩ := cst_all h0 h1
  obtain ⟨g, cap, hv, _⟩ := own.form h1
  have e3 : a = some ⟨g, 0, none⟩ ∧ c = cap := by
    injection hv with q1 q2 q3
    exact ⟨q1, q3⟩
  refine ⟨g, e3.1, ?_⟩
  have h2 := h.p26 (wx := wx) (g := g) (cap := c) hsm hn fr (by rw [e1, e2, ← e3.1]; exact own)
  rw [e2] at h2
  exact h2
noncomputable def rest14 : Code := (Ybad.f3.body.bind (restFrom 14)).getD .skip
set_option maxRecDepth 100000 in
set_option maxHeartbeats 8000000 in
theorem s14 (I : Inp) (hsm : I.Sm) (w0 W : World) (hI : I.At w0) (bC bt bA : Nat) (bs cc bp bb bcap bm mcap : Nat → Nat) (tx : Nat → Mk) (hA : A3 I w0 bC bt bA 0 bs cc bp bb bcap bm mcap tx W)
    {v6 v7 v8 v9 v10 v11 v13 v14 v15 v19 v20 v21 v22 v23 v24 v25 v26 v27 v28 v29 v30 v31 v32 v33 v34 v35 v36 v37 v38 v39 v40 v41 v42 v43 v44 v45 v46 v47 v48 v49 v50 v51 v52 v53 v54 v55 v56 v57 v58 v59 v60 v61 v62 v63 v64 v65 v66 v67 v68 v69 v70 v71 v72 v73 v74 v75 v76 v77 v78 v79 v80 v81 v82 v83 v84 v85 v86 v87 v88 v89 v90 v91 v92 v93 v94 v95 v96 v97 v98 v99 v100 v101 v102 v103 v104 v105 v106 v107 v108 v109 v110 v111 v112 v113 v114 v115 v116 v117 v118 v119 v120 v121 v122 v123 v124 v125 v126 v127 v128 v129 v130 v131 v132 v133 v134 v135 v136 v137 v138 v139 v140 v141 v142 v143 v144 v145 v146 v147 v148 v149 v150 v151 v152 v153 v154 v155 v156 v157 v158 v159 v160 v161 v162 v163 v164 v165 v166 v167 v168 v169 v170 v171 v172 v173 v174 v175 v176 v177 v178 v179 v180 v181 v182 v183 v184 v185 v186 v187 v188 v189 v190 v191 v192 v193 v194 v195 v196 v197 v198 v199 v200 v201 v202 v203 v204 v205 v206 v207 v208 v209 v210 v211 v212 v213 v214 v215 v216 v217 v218 v219 v220 v221 v222 v223 v224 v225 v226 v227 v228 v229 v230 v231 v232 v233 v234 v235 v236 v237 v238 v239 v240 v241 v242 v243 v244 v245 v246 v247 v248 v249 v250 v251 v252 v253 v254 v255 v256 v257 v258 v259 v260 v261 v262 v263 v264 v265 v266 v267 v268 v269 v270 v271 v272 v273 v274 v275 v276 v277 v278 v279 v280 v281 v282 v283 v284 v285 v286 v287 v288 v289 v290 v291 v292 v293 v294 v295 v296 v297 v298 v299 v300 v301 v302 v303 v304 v305 v306 v307 v308 v309 v310 v311 v312 v313 v314 v315 v316 v317 v318 v319 v320 v321 v322 v323 v324 v325 v326 v327 v328 v329 v330 v331 v332 v333 v334 v335 v336 v337 v338 v339 v340 v341 v342 v343 v344 v345 v346 v347 v348 v349 v350 v351 v352 v353 v354 v355 v356 v357 v358 v359 v360 v361 v362 v363 v364 v365 v366 v367 v368 v369 v370 v371 v372 v373 v374 v375 v376 v377 v378 v379 v380 v381 v382 v383 v384 v385 v386 v387 v388 v389 v390 v391 v392 v393 v394 v395 v396 v397 v398 v399 v400 v401 v402 v403 v404 v405 v406 v407 v408 v409 v410 v411 v412 v413 v414 v415 v416 v417 v418 v419 v420 v421 v422 v423 v424 v425 v426 v427 v428 v429 v430 v431 v432 v433 v434 v435 v436 v437 v438 v439 v440 v441 v442 v443 v444 v445 v446 v447 v448 v449 v450 v451 v452 v453 v454 v455 v456 v457 v458 v459 v460 v461 v462 v463 v464 v465 v466 : Value} :
    Code.wp Ybad.prog rest14 (bodyPost Ybad.prog Ybad.f3 (lawPost w0)) ⟨#[.slice I.a0 I.n0 I.k0, .slice I.a1 I.n1 I.k1, .int .u8 (I.per : Nat), .int .u64 (I.lv : Nat), .slice I.a4 I.n4 I.k4, .slice I.a5 I.n5 I.k5, v6, v7, v8, v9, v10, v11, .bool false, v13, v14, v15, .int .i64 (I.nA : Nat), .slice (some ⟨bC, 0, none⟩) I.nA I.nA, .pointer (some ⟨bt, 0, none⟩), v19, v20, v21, v22, v23, v24, v25, v26, v27, v28, v29, v30, v31, v32, v33, v34, v35, v36, v37, v38, v39, v40, v41, v42, v43, v44, v45, v46, v47, v48, v49, v50, v51, v52, v53, v54, v55, v56, v57, v58, v59, v60, v61, v62, v63, v64, v65, v66, v67, v68, v69, v70, v71, v72, v73, v74, v75, v76, v77, v78, v79, v80, v81, v82, v83, v84, v85, v86, v87, v88, v89, v90, v91, v92, v93, v94, v95, v96, v97, v98, v99, v100, v101, v102, v103, v104, v105, v106, v107, v108, v109, v110, v111, v112, v113, v114, v115, v116, v117, v118, v119, v120, v121, v122, v123, v124, v125, v126, v127, v128, v129, v130, v131, v132, v133, v134, v135, v136, v137, v138, v139, v140, v141, v142, v143, v144, v145, v146, v147, v148, v149, v150, v151, v152, v153, v154, v155, v156, v157, v158, v159, v160, v161, v162, v163, v164, v165, v166, v167, v168, v169, v170, v171, v172, v173, v174, v175, v176, v177, v178, v179, v180, v181, v182, v183, v184, v185, v186, v187, v188, v189, v190, v191, v192, v193, v194, v195, v196, v197, v198, v199, v200, v201, v202, v203, v204, v205, v206, v207, v208, v209, v210, v211, v212, v213, v214, v215, v216, v217, v218, v219, v220, v221, v222, v223, v224, v225, v226, v227, v228, v229, v230, v231, v232, v233, v234, v235, v236, v237, v238, v239, v240, v241, v242, v243, v244, v245, v246, v247, v248, v249, v250, v251, v252, v253, v254, v255, v256, v257, v258, v259, v260, v261, v262, v263, v264, v265, v266, v267, v268, v269, v270, v271, v272, v273, v274, v275, v276, v277, v278, v279, v280, v281, v282, v283, v284, v285, v286, v287, v288, v289, v290, v291, v292, v293, v294, v295, v296, v297, v298, v299, v300, v301, v302, v303, v304, v305, v306, v307, v308, v309, v310, v311, v312, v313, v314, v315, v316, v317, v318, v319, v320, v321, v322, v323, v324, v325, v326, v327, v328, v329, v330, v331, v332, v333, v334, v335, v336, v337, v338, v339, v340, v341, v342, v343, v344, v345, v346, v347, v348, v349, v350, v351, v352, v353, v354, v355, v356, v357, v358, v359, v360, v361, v362, v363, v364, v365, v366, v367, v368, v369, v370, v371, v372, v373, v374, v375, v376, v377, v378, v379, v380, v381, v382, v383, v384, v385, v386, v387, v388, v389, v390, v391, v392, v393, v394, v395, v396, v397, v398, v399, v400, v401, v402, v403, v404, v405, v406, v407, v408, v409, v410, v411, v412, v413, v414, v415, v416, v417, v418, v419, v420, v421, v422, v423, v424, v425, v426, v427, v428, v429, v430, v431, v432, v433, v434, v435, v436, v437, v438, v439, v440, v441, v442, v443, v444, v445, v446, v447, v448, v449, v450, v451, v452, v453, v454, v455, v456, v457, v458, v459, v460, v461, v462, v463, v464, v465, v466], []⟩ W := by
  have HA0 : Hid (A3 I w0 bC bt bA 0 bs cc bp bb bcap bm mcap tx W) := hA
  have HI : Hid (I.At w0) := hI
  have HSM : Hid I.Sm := hsm
  have hn0 := hsm.n0
  have hnA : I.nA ≤ 64 := Inp.nA_le hsm
  obtain ⟨i9, hi9, hz1, hz2, hz3⟩ := info_parts info9
  have HI9 : Hid (Ybad.prog.info? 9 = some i9) := hi9
  have HZ1 : Hid (i9.zero = some (.string ⟨#[]⟩)) := hz1
  have HZ2 : Hid (i9.size = 1) := hz2
  have HZ3 : Hid (i9.bytes = 16) := hz3
  clear hA hI hsm hi9 hz1 hz2 hz3
  conv => arg 2; whnf
  conv => arg 4; dsimp only
  go_wp2
  go_loopw [19] (fun x wr => ∃ (n : Nat) (bs cc bp bb bcap bm mcap : Nat → Nat) (tx : Nat → Mk), x = .int .i64 n ∧ n ≤ I.nA ∧ A3 I w0 bC bt bA n bs cc bp bb bcap bm mcap tx wr) (fun x _ => I.nA - (intOf x).toNat)
  case atStart => exact ⟨0, _, _, _, _, _, _, _, _, rfl, Nat.zero_le _, HA0.out⟩
  case round =>
    rename_i Kn hKn
    have HKE : Hid (∀ a w, Code.wp Ybad.prog rest35 (bodyPost Ybad.prog Ybad.f3 (lawPost w0)) a w → Kn a w) := hKn
    clear hKn HA0
    obtain ⟨n, bs, cc, bp, bb, bcap, bm, mcap, tx, rfl, hn, hA⟩ := hrel
    obtain ⟨wo, rfl⟩ : ∃ wo, wo = wr := ⟨_, rfl⟩
    have HA : Hid (A3 I w0 bC bt bA n bs cc bp bb bcap bm mcap tx wo) := hA
    clear hA
    by_cases h : n < I.nA
    · have e1 : (n : Int) < (I.nA : Int) := by omega
      by_cases h0 : n < I.n0
      · have e2 : (n : Int) < (I.n0 : Int) := by omega
        have htl := HSM.out.tl n h0
        obtain ⟨b, o, ha0, c1⟩ := (HI.out.below HA.out.below).t n h0
        rw [ha0]
        go_wp2
        clear c1
        go_loopw [20, 110] (fun v x wx => ∃ (k : Nat) (a : Option Addr) (c : Nat), v = .slice a k c ∧ x = .int .i64 k ∧ k ≤ I.tl n ∧ wx.ownsRow wo.heap.size 9 1 (.slice a k c) k (cst I n k) ∧ XFr wo wx (fun _ => False)) (fun _ x _ => I.tl n - (intOf x).toNat)
        case atStart => exact ⟨0, none, 0, rfl, rfl, Nat.zero_le _, World.ownsRow_nil _ _ _ _, XFr.refl _ _⟩
        case round =>
          obtain ⟨k, a, c, rfl, rfl, hk, hown, hx⟩ := hrel
          obtain ⟨wx, rfl⟩ : ∃ wx, wx = wr := ⟨_, rfl⟩
          have HOW : Hid (wx.ownsRow wo.heap.size 9 1 (.slice a k c) k (cst I n k)) := hown
          have HX : Hid (XFr wo wx (fun _ => False)) := hx
          clear hown hx
          by_cases h2 : k < I.tl n
          · have e3 : (k : Int) < (I.tl n : Int) := by omega
            obtain ⟨b', o', hta, c2, hz⟩ := (HI.out.below (HA.out.below.trans ((xfr_below HX.out).mono HA.out.below.size))).tz n h0 k h2
            rw [hta]
            obtain ⟨z, hzz⟩ : ∃ z, z = I.tz n k := ⟨_, rfl⟩
            obtain ⟨s, hs⟩ : ∃ s, s = st (ch z) := ⟨_, rfl⟩
            have HZZ : Hid (s = st (ch (I.tz n k))) := by rw [hs, hzz]; exact rfl
            have HCH : Hid (∀ w, Calls Ybad.prog 4 #[.int .u8 (z : Nat)] w fun e w' => e = .returned (.string s) ∧ w' = w) := by rw [hs]; exact fun w => char_any z w
            rw [← hzz] at c2 hz
            clear hzz hs
            go_wp2_with (first | (go_at_call 4; refine Calls.mono (HCH.out _) ?_; rintro e w' ⟨rfl, hw⟩; obtain rfl := hw.symm) | (refine wpList_append_lies (P := Ybad.prog) _ (by rfl) (.tmp 114) (.tmp 117) 46 (by rfl) wo.heap.size 9 i9 (.string ⟨#[]⟩) 1 16 Ybad.underlying46 HI9.out HZ1.out HZ2.out HZ3.out (by rfl) (by decide) (.slice a k c) k (cst I n k) (by rfl) (HOW.out.alloc _) ⟨wx.heap.size, 0, none⟩ 1 1 [.string s] (by rfl) (by rfl) (World.news_of_block (cs := #[.string s]) (World.alloc_heap_new wx _)) (by intro v hv; obtain rfl := List.mem_singleton.1 hv; rfl) (by decide) (by unfold maxLen; omega) (by omega) (le_alloc HX.out.size _) (wx.heap.size + 1) (World.size_alloc _ _) ?_))
            intro g' cap' w' hown hgrow _ _
            have HOW2 : Hid (w'.ownsRow wo.heap.size 9 1 (.slice (some ⟨g', 0, none⟩) (k + 1) cap') (k + 1) (cst I n (k + 1))) := by rw [cst_succ, ← HZZ.out]; exact hown
            have HX2 : Hid (XFr wo w' (fun _ => False)) := (HX.out.alloc _).grown hgrow (fun r e => Or.inr (HOW.out.lt r e).1)
            clear hown hgrow HOW HX c2
            go_wp2
            exact ⟨⟨k + 1, _, _, rfl, by go_num, by omega, HOW2.out, HX2.out⟩, by simp [intOf]; go_num⟩
          · have e3 : ¬ (k : Int) < (I.tl n : Int) := by omega
            have EK : Hid (k = I.tl n) := by have ek : k = I.tl n := by omega
                                             exact ek
            go_upto_if 122 with fail
            rename_i Km hKm
            have HKN : Hid (∀ a w, Code.wp Ybad.prog rest26 _ a w → Km a w) := hKm
            clear hKm
            by_cases h4 : 0 < I.tl n
            · obtain ⟨g, hga, hP⟩ := HA.out.p26c HSM.out h HX.out h0 h4 (by rw [← EK.out]; exact HOW.out)
              have e4 : ¬ (k : Int) = 0 := by have h5 := EK.out; omega
              subst hga
              rw [← EK.out] at hP
              have HP : Hid (P26 I wo bC bA bt n g c k wx) := hP
              clear hP
              go_wp2
              refine HKN.out _ _ (r26 I wo wx bC bA bt n g c k HP.out _ (fun u23 u25 u124 u125 u126 u127 u128 u129 u130 u131 u132 u133 u134 u135 u136 u137 u138 u139 u140 u141 u142 u143 u144 u145 u146 u147 u148 u149 u150 u151 u152 u153 u154 u155 u156 u157 u158 u159 W' hN => ?_))
              have HN3 : Hid (∃ bs cc bp bb bcap bm mcap tx, A3 I w0 bC bt bA (n + 1) bs cc bp bb bcap bm mcap tx W') := by
                obtain ⟨xp, xb, xcap, xm, xmc, t, h5⟩ := hN
                exact ⟨_, _, _, _, _, _, _, _, HA.out.next h5⟩
              clear hN
              go_wp2
              obtain ⟨bs', cc', bp', bb', bcap', bm', mcap', tx', h5⟩ := HN3.out
              exact ⟨⟨n + 1, bs', cc', bp', bb', bcap', bm', mcap', tx', by go_num, by omega, h5⟩, by simp [intOf]; go_num⟩
            · have HP : Hid (P26 I wo bC bA bt n wx.heap.size 1 1 (wx.alloc (.cells #[.string ⟨#[120]⟩] 9))) := HA.out.p26x HSM.out h HX.out (fun e => h4 e.2)
              have e4 : k = 0 := by have h5 := EK.out; omega
              subst e4
              go_wp2
              refine HKN.out _ _ (r26 I wo (wx.alloc (.cells #[.string ⟨#[120]⟩] 9)) bC bA bt n wx.heap.size 1 1 HP.out _ (fun u23 u25 u124 u125 u126 u127 u128 u129 u130 u131 u132 u133 u134 u135 u136 u137 u138 u139 u140 u141 u142 u143 u144 u145 u146 u147 u148 u149 u150 u151 u152 u153 u154 u155 u156 u157 u158 u159 W' hN => ?_))
              have HN3 : Hid (∃ bs cc bp bb bcap bm mcap tx, A3 I w0 bC bt bA (n + 1) bs cc bp bb bcap bm mcap tx W') := by
                obtain ⟨xp, xb, xcap, xm, xmc, t, h5⟩ := hN
                exact ⟨_, _, _, _, _, _, _, _, HA.out.next h5⟩
              clear hN
              go_wp2
              obtain ⟨bs', cc', bp', bb', bcap', bm', mcap', tx', h5⟩ := HN3.out
              exact ⟨⟨n + 1, bs', cc', bp', bb', bcap', bm', mcap', tx', by go_num, by omega, h5⟩, by simp [intOf]; go_num⟩
      · have e2 : ¬ (n : Int) < (I.n0 : Int) := by omega
        have HP : Hid (P26 I wo bC bA bt n wo.heap.size 1 1 (wo.alloc (.cells #[.string ⟨#[120]⟩] 9))) := HA.out.p26x HSM.out h (XFr.refl _ _) (fun e => h0 e.1)
        go_upto_if 122 with fail
        rename_i Km hKm
        have HKN : Hid (∀ a w, Code.wp Ybad.prog rest26 _ a w → Km a w) := hKm
        clear hKm
        go_wp2
        refine HKN.out _ _ (r26 I wo (wo.alloc (.cells #[.string ⟨#[120]⟩] 9)) bC bA bt n wo.heap.size 1 1 HP.out _ (fun u23 u25 u124 u125 u126 u127 u128 u129 u130 u131 u132 u133 u134 u135 u136 u137 u138 u139 u140 u141 u142 u143 u144 u145 u146 u147 u148 u149 u150 u151 u152 u153 u154 u155 u156 u157 u158 u159 W' hN => ?_))
        have HN3 : Hid (∃ bs cc bp bb bcap bm mcap tx, A3 I w0 bC bt bA (n + 1) bs cc bp bb bcap bm mcap tx W') := by
          obtain ⟨xp, xb, xcap, xm, xmc, t, h5⟩ := hN
          exact ⟨_, _, _, _, _, _, _, _, HA.out.next h5⟩
        clear hN
        go_wp2
        obtain ⟨bs', cc', bp', bb', bcap', bm', mcap', tx', h5⟩ := HN3.out
        exact ⟨⟨n + 1, bs', cc', bp', bb', bcap', bm', mcap', tx', by go_num, by omega, h5⟩, by simp [intOf]; go_num⟩
    · have e1 : ¬ (n : Int) < (I.nA : Int) := by omega
      go_wp2
      have en : n = I.nA := by omega
      subst en
      exact HKE.out _ _ (s35 I HSM.out w0 wo HI.out bC bt bA bs cc bp bb bcap bm mcap tx HA.out.g3)
end Go.Proofs.YbulkdhcgDoor
