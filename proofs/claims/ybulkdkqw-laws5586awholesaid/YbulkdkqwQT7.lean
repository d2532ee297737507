import Derived.Test.YbulkdkqwQSort
namespace Go.Proofs.Ybulkdkqw.lawS5586AWhole
open Go.ChangeShapes Go.WideShapes Go.ChangeAt Go.RowKit
def ltM (a b : MP) : Prop := a.id < b.id

set_option linter.unusedVariables false in
set_option maxRecDepth 1000000 in
set_option maxHeartbeats 16000000 in
theorem t7 {v0 v1 v2 v3 v4 v5 v6 v7 v8 v9 v10 v11 v12 v13 v14 v15 v16 v17 v18 v19 v21 v22 v23 v24 v25 v26 v27 v28 v29 v30 v31 v32 v33 v34 v35 v36 v37 v38 v39 v40 v41 v42 v43 v44 v45 v46 v47 v48 v49 v50 v51 v52 v53 v54 v55 v56 v57 v58 v59 v60 v61 v62 v63 v64 v65 v66 v67 v68 v69 v70 v71 v72 v73 v74 v75 v76 v77 v78 v79 v80 v81 v82 v83 v84 v85 v86 v87 v88 v89 v90 v91 v92 v93 v94 v95 v96 v97 v98 v99 v100 v101 v102 v103 v104 v105 v106 v107 v108 v109 v110 v111 v112 v113 v114 v115 v116 v117 v118 v119 v120 v121 v122 v123 v124 v125 v126 v127 v128 v129 v130 v131 v132 v133 v134 v135 v136 v137 v138 v139 v140 v141 v142 v143 v144 v145 v146 v147 v148 v149 v150 v151 v152 v153 v154 v155 v156 v157 v158 v159 v160 v161 v162 v163 v164 v165 v166 v167 v168 v169 v170 v171 v172 v173 v174 v175 v176 v177 v178 v179 v180 v181 v182 v183 v184 v185 v186 v187 v188 v189 v190 v191 v192 v193 v194 v195 v196 v197 v198 v199 v200 v201 v202 v203 v204 v205 v206 v207 v208 v209 v210 v211 v212 v213 v214 v215 v216 v217 v218 v219 v220 v221 v222 v223 v224 v225 v226 v227 v228 v229 v230 v231 v232 v233 v234 v235 v236 v237 v238 v239 v240 v241 v242 v243 v244 v245 v246 v247 v248 v249 v250 v251 v252 v253 v254 v255 v256 v257 v258 v259 v260 v261 v262 v263 v264 v265 v266 v267 v268 v269 v270 v271 v272 v273 v274 v275 v276 v277 v278 v279 v280 v281 v282 v283 v284 v285 v286 v287 v288 v289 v290 v291 v292 v293 v294 v295 v296 v297 v298 v299 v300 v301 v302 v303 v304 v305 v306 v307 v308 v309 v310 v311 v312 v313 v314 v315 v316 v317 v318 v319 v320 v321 v322 v323 v324 v325 v326 v327 v328 v329 v330 v331 v332 v333 v334 v335 v336 v337 v338 v339 v340 v341 v342 v343 v344 v345 v346 v347 v348 v349 v350 v351 v352 v353 v354 v355 v356 v357 v358 v359 v360 v361 v362 v363 v364 v365 v366 v367 v368 v369 v370 v371 v372 v373 v374 v375 v376 v377 v378 v379 v380 v381 v382 v383 v384 v385 v386 v387 v388 v389 v390 v391 v392 v393 v394 v395 v396 v397 v398 v399 v400 v401 v402 v403 v404 v405 v406 v407 v408 v409 v410 v411 v412 v413 v414 v415 v416 v417 v418 v419 v420 v421 v422 v423 v424 v425 v426 v427 v428 v429 v430 v431 v432 v433 v434 v435 v436 v437 v438 v439 v440 v441 v442 v443 v444 v445 v446 v447 v448 v449 v450 v451 v452 v453 v454 v455 v456 v457 v458 v459 v460 v461 v462 v463 v464 v465 v466 v467 v468 v469 v470 v471 v472 v473 v474 v475 v476 v477 v478 v479 v480 v481 v482 v483 v484 v485 v486 v487 v488 v489 v490 v491 v492 v493 v494 v495 v496 v497 v498 v499 v500 v501 v502 v503 v504 v505 v506 v507 v508 v509 v510 v511 v512 v513 v514 v515 v516 v517 v518 v519 v520 v521 v522 v523 v524 v525 v526 v527 v528 v529 v530 v531 v532 v533 v534 v535 v536 v537 v538 v539 v540 v541 v542 v543 v544 v545 v546 v547 v548 v549 v550 v551 v552 v553 v554 v555 v556 v557 v558 v559 v560 v561 v562 v563 v564 v565 v566 v567 v568 v569 v570 v571 v572 v573 v574 v575 v576 v577 v578 v579 v580 v581 v582 v583 v584 v585 v586 v587 v588 v589 v590 v591 v592 v593 v594 v595 v596 v597 v598 v599 v600 v601 v602 v603 v604 v605 v606 v607 v608 v609 v610 v611 v612 v613 v614 v615 v616 v617 v618 v619 v620 v621 v622 v623 v624 v625 v626 v627 v628 v629 v630 v631 v632 v633 v634 v635 v636 v637 v638 v639 v640 v641 v642 v643 v644 v645 v646 v647 v648 v649 v650 v651 v652 v653 v654 v655 v656 v657 v658 v659 v660 v661 v662 v663 v664 v665 v666 v667 v668 v669 v670 v671 v672 v673 v674 v675 v676 v677 v678 v679 v680 v681 v682 v683 v684 v685 v686 : Value} (w : World) (g n : Nat) (M0 : List MP)
    (hR : RowM w g n M0) (hn : n ≤ 1024) (hd : M0.Pairwise (fun a b => a.id ≠ b.id)) (Q : Exit → Act → World → Prop)
    (hQ : ∀ (u21 u22 u23 u141 u142 u143 u144 u145 u146 u147 u148 u149 u150 u151 u152 u153 u154 u155 u156 u157 u158 u159 u160 u161 u162 u163 u164 u165 u166 u167 u168 u169 u170 u171 u172 u173 u174 u175 u176 u177 u178 u179 u180 u181 u182 : Value) wr M, RowM wr g n M → M.Perm M0 → M.Pairwise ltM → Chg [g] w wr → Code.wp Yba.prog ((Yba.f3.body.map (tailN 8)).getD .skip) Q ⟨#[v0, v1, v2, v3, v4, v5, v6, v7, v8, v9, v10, v11, v12, v13, v14, v15, v16, v17, v18, v19, .slice (some ⟨g, 0, none⟩) n n, u21, u22, u23, v24, v25, v26, v27, v28, v29, v30, v31, v32, v33, v34, v35, v36, v37, v38, v39, v40, v41, v42, v43, v44, v45, v46, v47, v48, v49, v50, v51, v52, v53, v54, v55, v56, v57, v58, v59, v60, v61, v62, v63, v64, v65, v66, v67, v68, v69, v70, v71, v72, v73, v74, v75, v76, v77, v78, v79, v80, v81, v82, v83, v84, v85, v86, v87, v88, v89, v90, v91, v92, v93, v94, v95, v96, v97, v98, v99, v100, v101, v102, v103, v104, v105, v106, v107, v108, v109, v110, v111, v112, v113, v114, v115, v116, v117, v118, v119, v120, v121, v122, v123, v124, v125, v126, v127, v128, v129, v130, v131, v132, v133, v134, v135, v136, v137, v138, v139, v140, u141, u142, u143, u144, u145, u146, u147, u148, u149, u150, u151, u152, u153, u154, u155, u156, u157, u158, u159, u160, u161, u162, u163, u164, u165, u166, u167, u168, u169, u170, u171, u172, u173, u174, u175, u176, u177, u178, u179, u180, u181, u182, v183, v184, v185, v186, v187, v188, v189, v190, v191, v192, v193, v194, v195, v196, v197, v198, v199, v200, v201, v202, v203, v204, v205, v206, v207, v208, v209, v210, v211, v212, v213, v214, v215, v216, v217, v218, v219, v220, v221, v222, v223, v224, v225, v226, v227, v228, v229, v230, v231, v232, v233, v234, v235, v236, v237, v238, v239, v240, v241, v242, v243, v244, v245, v246, v247, v248, v249, v250, v251, v252, v253, v254, v255, v256, v257, v258, v259, v260, v261, v262, v263, v264, v265, v266, v267, v268, v269, v270, v271, v272, v273, v274, v275, v276, v277, v278, v279, v280, v281, v282, v283, v284, v285, v286, v287, v288, v289, v290, v291, v292, v293, v294, v295, v296, v297, v298, v299, v300, v301, v302, v303, v304, v305, v306, v307, v308, v309, v310, v311, v312, v313, v314, v315, v316, v317, v318, v319, v320, v321, v322, v323, v324, v325, v326, v327, v328, v329, v330, v331, v332, v333, v334, v335, v336, v337, v338, v339, v340, v341, v342, v343, v344, v345, v346, v347, v348, v349, v350, v351, v352, v353, v354, v355, v356, v357, v358, v359, v360, v361, v362, v363, v364, v365, v366, v367, v368, v369, v370, v371, v372, v373, v374, v375, v376, v377, v378, v379, v380, v381, v382, v383, v384, v385, v386, v387, v388, v389, v390, v391, v392, v393, v394, v395, v396, v397, v398, v399, v400, v401, v402, v403, v404, v405, v406, v407, v408, v409, v410, v411, v412, v413, v414, v415, v416, v417, v418, v419, v420, v421, v422, v423, v424, v425, v426, v427, v428, v429, v430, v431, v432, v433, v434, v435, v436, v437, v438, v439, v440, v441, v442, v443, v444, v445, v446, v447, v448, v449, v450, v451, v452, v453, v454, v455, v456, v457, v458, v459, v460, v461, v462, v463, v464, v465, v466, v467, v468, v469, v470, v471, v472, v473, v474, v475, v476, v477, v478, v479, v480, v481, v482, v483, v484, v485, v486, v487, v488, v489, v490, v491, v492, v493, v494, v495, v496, v497, v498, v499, v500, v501, v502, v503, v504, v505, v506, v507, v508, v509, v510, v511, v512, v513, v514, v515, v516, v517, v518, v519, v520, v521, v522, v523, v524, v525, v526, v527, v528, v529, v530, v531, v532, v533, v534, v535, v536, v537, v538, v539, v540, v541, v542, v543, v544, v545, v546, v547, v548, v549, v550, v551, v552, v553, v554, v555, v556, v557, v558, v559, v560, v561, v562, v563, v564, v565, v566, v567, v568, v569, v570, v571, v572, v573, v574, v575, v576, v577, v578, v579, v580, v581, v582, v583, v584, v585, v586, v587, v588, v589, v590, v591, v592, v593, v594, v595, v596, v597, v598, v599, v600, v601, v602, v603, v604, v605, v606, v607, v608, v609, v610, v611, v612, v613, v614, v615, v616, v617, v618, v619, v620, v621, v622, v623, v624, v625, v626, v627, v628, v629, v630, v631, v632, v633, v634, v635, v636, v637, v638, v639, v640, v641, v642, v643, v644, v645, v646, v647, v648, v649, v650, v651, v652, v653, v654, v655, v656, v657, v658, v659, v660, v661, v662, v663, v664, v665, v666, v667, v668, v669, v670, v671, v672, v673, v674, v675, v676, v677, v678, v679, v680, v681, v682, v683, v684, v685, v686], []⟩ wr)
    (code : Code) (hc : Yba.f3.body.map (tailN 7) = some code) :
    Code.wp Yba.prog code Q ⟨#[v0, v1, v2, v3, v4, v5, v6, v7, v8, v9, v10, v11, v12, v13, v14, v15, v16, v17, v18, v19, .slice (some ⟨g, 0, none⟩) n n, v21, v22, v23, v24, v25, v26, v27, v28, v29, v30, v31, v32, v33, v34, v35, v36, v37, v38, v39, v40, v41, v42, v43, v44, v45, v46, v47, v48, v49, v50, v51, v52, v53, v54, v55, v56, v57, v58, v59, v60, v61, v62, v63, v64, v65, v66, v67, v68, v69, v70, v71, v72, v73, v74, v75, v76, v77, v78, v79, v80, v81, v82, v83, v84, v85, v86, v87, v88, v89, v90, v91, v92, v93, v94, v95, v96, v97, v98, v99, v100, v101, v102, v103, v104, v105, v106, v107, v108, v109, v110, v111, v112, v113, v114, v115, v116, v117, v118, v119, v120, v121, v122, v123, v124, v125, v126, v127, v128, v129, v130, v131, v132, v133, v134, v135, v136, v137, v138, v139, v140, v141, v142, v143, v144, v145, v146, v147, v148, v149, v150, v151, v152, v153, v154, v155, v156, v157, v158, v159, v160, v161, v162, v163, v164, v165, v166, v167, v168, v169, v170, v171, v172, v173, v174, v175, v176, v177, v178, v179, v180, v181, v182, v183, v184, v185, v186, v187, v188, v189, v190, v191, v192, v193, v194, v195, v196, v197, v198, v199, v200, v201, v202, v203, v204, v205, v206, v207, v208, v209, v210, v211, v212, v213, v214, v215, v216, v217, v218, v219, v220, v221, v222, v223, v224, v225, v226, v227, v228, v229, v230, v231, v232, v233, v234, v235, v236, v237, v238, v239, v240, v241, v242, v243, v244, v245, v246, v247, v248, v249, v250, v251, v252, v253, v254, v255, v256, v257, v258, v259, v260, v261, v262, v263, v264, v265, v266, v267, v268, v269, v270, v271, v272, v273, v274, v275, v276, v277, v278, v279, v280, v281, v282, v283, v284, v285, v286, v287, v288, v289, v290, v291, v292, v293, v294, v295, v296, v297, v298, v299, v300, v301, v302, v303, v304, v305, v306, v307, v308, v309, v310, v311, v312, v313, v314, v315, v316, v317, v318, v319, v320, v321, v322, v323, v324, v325, v326, v327, v328, v329, v330, v331, v332, v333, v334, v335, v336, v337, v338, v339, v340, v341, v342, v343, v344, v345, v346, v347, v348, v349, v350, v351, v352, v353, v354, v355, v356, v357, v358, v359, v360, v361, v362, v363, v364, v365, v366, v367, v368, v369, v370, v371, v372, v373, v374, v375, v376, v377, v378, v379, v380, v381, v382, v383, v384, v385, v386, v387, v388, v389, v390, v391, v392, v393, v394, v395, v396, v397, v398, v399, v400, v401, v402, v403, v404, v405, v406, v407, v408, v409, v410, v411, v412, v413, v414, v415, v416, v417, v418, v419, v420, v421, v422, v423, v424, v425, v426, v427, v428, v429, v430, v431, v432, v433, v434, v435, v436, v437, v438, v439, v440, v441, v442, v443, v444, v445, v446, v447, v448, v449, v450, v451, v452, v453, v454, v455, v456, v457, v458, v459, v460, v461, v462, v463, v464, v465, v466, v467, v468, v469, v470, v471, v472, v473, v474, v475, v476, v477, v478, v479, v480, v481, v482, v483, v484, v485, v486, v487, v488, v489, v490, v491, v492, v493, v494, v495, v496, v497, v498, v499, v500, v501, v502, v503, v504, v505, v506, v507, v508, v509, v510, v511, v512, v513, v514, v515, v516, v517, v518, v519, v520, v521, v522, v523, v524, v525, v526, v527, v528, v529, v530, v531, v532, v533, v534, v535, v536, v537, v538, v539, v540, v541, v542, v543, v544, v545, v546, v547, v548, v549, v550, v551, v552, v553, v554, v555, v556, v557, v558, v559, v560, v561, v562, v563, v564, v565, v566, v567, v568, v569, v570, v571, v572, v573, v574, v575, v576, v577, v578, v579, v580, v581, v582, v583, v584, v585, v586, v587, v588, v589, v590, v591, v592, v593, v594, v595, v596, v597, v598, v599, v600, v601, v602, v603, v604, v605, v606, v607, v608, v609, v610, v611, v612, v613, v614, v615, v616, v617, v618, v619, v620, v621, v622, v623, v624, v625, v626, v627, v628, v629, v630, v631, v632, v633, v634, v635, v636, v637, v638, v639, v640, v641, v642, v643, v644, v645, v646, v647, v648, v649, v650, v651, v652, v653, v654, v655, v656, v657, v658, v659, v660, v661, v662, v663, v664, v665, v666, v667, v668, v669, v670, v671, v672, v673, v674, v675, v676, v677, v678, v679, v680, v681, v682, v683, v684, v685, v686], []⟩ w := by
  cases hc
  conv => arg 2; whnf
  have HR : Hid (RowM w g n M0) := hR
  have HD : Hid (M0.Pairwise (fun a b => a.id ≠ b.id)) := hd
  have HQ := show Hid _ from hQ
  clear hR hd hQ
  refine wp_seq_k ?_
  intro K hK
  have HK := show Hid _ from hK
  clear hK
  go_wp2_with fail
  go_loopw [21] (fun ix wr => ∃ (a : Nat) (M : List MP), ix = .int .i64 a ∧ 1 ≤ a ∧ a ≤ n + 1 ∧ (M.take a).Pairwise ltM ∧ M.Perm M0 ∧ RowM wr g n M ∧ Chg [g] w wr) (fun ix _ => n + 1 - (intOf ix).toNat)
  case atStart => exact ⟨1, M0, rfl, Nat.le_refl _, by omega, by cases M0 with | nil => simp | cons a M => simp, List.Perm.refl _, HR.out, Chg.refl _ _⟩
  case round =>
    obtain ⟨a, M, rfl, ha1, hak, hsort, hperm, hRM, hch⟩ := hrel
    have HM : Hid ((M.take a).Pairwise ltM ∧ M.Perm M0 ∧ RowM wr g n M ∧ Chg [g] w wr) := ⟨hsort, hperm, hRM, hch⟩
    have hlen : M.length = n := hRM.len
    have HLen : Hid (M.length = n) := hlen
    clear hsort hperm hRM hch hlen
    obtain ⟨wo, hwo⟩ : ∃ wo, wo = wr := ⟨_, rfl⟩
    subst hwo
    by_cases hlt : a < n
    · have i0 : (a : Int) < (n : Int) := by omega
      go_wp2_with fail
      go_loopw [22] (fun bx wr => ∃ (A : List MP) (x : MP) (Cc R : List MP), bx = .int .i64 (A.length : Int) ∧ A.length + Cc.length = a ∧ (A ++ Cc).Pairwise ltM ∧ (∀ c ∈ Cc, x.id < c.id) ∧ (A ++ x :: (Cc ++ R)).Perm M0 ∧ RowM wr g n (A ++ x :: (Cc ++ R)) ∧ Chg [g] w wr) (fun bx _ => (intOf bx).toNat)
      case atStart =>
        have hl := HLen.out
        have ht : (M.take a).length = a := by simp; omega
        have hx : M[a]? = some (M[a]'(by omega)) := List.getElem?_eq_getElem (by omega)
        have hM : M = M.take a ++ (M[a]'(by omega)) :: ([] ++ M.drop (a + 1)) := by
          rw [List.nil_append, ← List.drop_eq_getElem_cons, List.take_append_drop]
        refine ⟨M.take a, M[a]'(by omega), [], M.drop (a + 1), by rw [ht], by simp; omega, by simpa using HM.out.1, by simp, ?_, ?_, HM.out.2.2.2⟩
        · rw [← hM]; exact HM.out.2.1
        · rw [← hM]; exact HM.out.2.2.1
      case round =>
        obtain ⟨A, x, Cc, R, rfl, hAC, hs, hxc, hperm, hRM, hch⟩ := hrel
        have HI : Hid ((A ++ Cc).Pairwise ltM ∧ (∀ c ∈ Cc, x.id < c.id) ∧ (A ++ x :: (Cc ++ R)).Perm M0 ∧ RowM wr g n (A ++ x :: (Cc ++ R)) ∧ Chg [g] w wr ∧ A.length + Cc.length = a) := ⟨hs, hxc, hperm, hRM, hch, hAC⟩
        have hln : A.length + 1 + Cc.length + R.length = n := by have := hRM.len; simp at this; omega
        clear hs hxc hperm hRM hch
        have done : ∀ wz, RowM wz g n (A ++ x :: (Cc ++ R)) → Chg [g] w wz → (A ++ x :: Cc).Pairwise ltM → ∃ (a' : Nat) (M : List MP), Value.int .i64 ((a : Int) + 1) = .int .i64 a' ∧ 1 ≤ a' ∧ a' ≤ n + 1 ∧ (M.take a').Pairwise ltM ∧ M.Perm M0 ∧ RowM wz g n M ∧ Chg [g] w wz := fun wz h1 h2 h3 => by
          refine ⟨a + 1, _, by simp, by omega, by omega, ?_, HI.out.2.2.1, h1, h2⟩
          have e : (A ++ x :: (Cc ++ R)).take (a + 1) = A ++ x :: Cc := by
            rw [show A ++ x :: (Cc ++ R) = (A ++ x :: Cc) ++ R by simp, List.take_append_of_le_length (by simp; omega), List.take_of_length_le (by simp; omega)]
          rw [e]
          exact h3
        have HDone := show Hid _ from done
        clear done
        rcases List.eq_nil_or_concat A with rfl | ⟨A', y, hA⟩
        · have HS : Hid (([] ++ x :: Cc).Pairwise ltM) := by
            show ([] ++ x :: Cc).Pairwise ltM
            rw [List.nil_append, List.pairwise_cons]
            exact ⟨HI.out.2.1, by simpa using HI.out.1⟩
          simp only [List.length_nil]
          go_wp2_with fail
          go_quiet (fail)
          go_wp2_with fail
          go_roundw
          case rel =>
            have hR2 : RowM (wr.drewN nq) g n ([] ++ x :: (Cc ++ R)) := HI.out.2.2.2.1.later (below_drewN (Below.refl _ _) _)
            exact HDone.out _ hR2 (HI.out.2.2.2.2.1.drewN _) HS.out
          case measure => simp [intOf]; omega
        · have hA2 : A = A' ++ [y] := by simpa using hA
          subst hA2
          obtain ⟨p, hp⟩ : ∃ p, A'.length = p := ⟨_, rfl⟩
          have HPl : Hid (A'.length = p) := hp
          have hMy : ((A' ++ [y]) ++ x :: (Cc ++ R))[p]? = some y := by rw [← hp]; simp
          have hMx : ((A' ++ [y]) ++ x :: (Cc ++ R))[p + 1]? = some x := by rw [← hp]; simp
          have hcl : (((A' ++ [y]).length : Nat) : Int) = (p : Int) + 1 := by simp [hp]
          rw [hcl]
          have hpn : p + 1 < n := by have := hln; simp [hp] at this; omega
          have hcel := HI.out.2.2.2.1.cell
          have y0 := hcel p y hMy 0 _ rfl
          have y1 := hcel p y hMy 1 _ rfl
          have y2 := hcel p y hMy 2 _ rfl
          have x0 := hcel (p + 1) x hMx 0 _ rfl
          have x1 := hcel (p + 1) x hMx 1 _ rfl
          have x2 := hcel (p + 1) x hMx 2 _ rfl
          simp only [Nat.add_zero] at y0 x0
          have fz := HI.out.2.2.2.1.frozen
          have lg := HI.out.2.2.2.1.lt
          have hd2 : y.id ≠ x.id := by
            have h1 : ((A' ++ [y]) ++ x :: (Cc ++ R)).Pairwise (fun a b => a.id ≠ b.id) := HI.out.2.2.1.symm.pairwise HD.out (fun h => Ne.symm h)
            have h2 := (List.pairwise_append.1 h1).2.2 y (by simp) x (by simp)
            exact h2
          have i2 : (p : Int) < (n : Int) := by omega
          have i3 : (p : Int) + 1 < (n : Int) := by omega
          have i4 : decide ((p : Int) + 1 > 0) = true := decide_eq_true (by omega)
          clear hcel hMy hMx hp hcl hA
          by_cases hgt : y.id > x.id
          · have hgb : decide (y.id > x.id) = true := decide_eq_true hgt
            have HG : Hid (x.id < y.id) := hgt
            clear hgt hd2
            go_wp2_with fail
            go_quiet (fail)
            generalize hq : wr.drewN _ = wq
            have HIq : Hid (RowM wq g n ((A' ++ [y]) ++ x :: (Cc ++ R)) ∧ Chg [g] w wq) := by subst hq; exact ⟨HI.out.2.2.2.1.later (below_drewN (Below.refl _ _) _), HI.out.2.2.2.2.1.drewN _⟩
            have y0 : wq.cell? ⟨g, p * 3, none⟩ = some (.int .u64 y.id) := by subst hq; exact y0
            have y1 : wq.cell? ⟨g, p * 3 + 1, none⟩ = some (.int .u8 y.st) := by subst hq; exact y1
            have y2 : wq.cell? ⟨g, p * 3 + 2, none⟩ = some (.int .u64 y.since) := by subst hq; exact y2
            have x0 : wq.cell? ⟨g, (p + 1) * 3, none⟩ = some (.int .u64 x.id) := by subst hq; exact x0
            have x1 : wq.cell? ⟨g, (p + 1) * 3 + 1, none⟩ = some (.int .u8 x.st) := by subst hq; exact x1
            have x2 : wq.cell? ⟨g, (p + 1) * 3 + 2, none⟩ = some (.int .u64 x.since) := by subst hq; exact x2
            have fz : ∀ i, wq.frozen? ⟨g, i, none⟩ = false := by subst hq; exact fz
            have lg : g < wq.heap.size := HIq.out.1.lt
            clear hq
            go_wp2_with fail
            go_roundw
            case rel =>
              have h2 := ((HIq.out.1.put (i := p + 1) hpn y).put (i := p) (by omega) x)
              have e : ((((A' ++ [y]) ++ x :: (Cc ++ R)).set (p + 1) y).set p x) = A' ++ x :: ((y :: Cc) ++ R) := by
                have := swap_at A' y x (Cc ++ R)
                rw [HPl.out] at this
                simpa using this
              rw [e] at h2
              have hpl := HPl.out
              refine ⟨A', x, y :: Cc, R, by rw [hpl], ?_, ?_, ?_, ?_, h2.later (nb (Below.refl _ _) (Nat.le_refl _) _), ?_⟩
              · have := HI.out.2.2.2.2.2; simp at this; simp; omega
              · have := HI.out.1; simpa using this
              · intro c hc
                rcases List.mem_cons.1 hc with rfl | hc
                · exact HG.out
                · exact HI.out.2.1 c hc
              · refine List.Perm.trans ?_ HI.out.2.2.1
                simpa using List.Perm.append_left A' (List.Perm.swap y x (Cc ++ R))
              · exact ((((((HIq.out.2.setCell (by simp) _).setCell (by simp) _).setCell (by simp) _).setCell (by simp) _).setCell (by simp) _).setCell (by simp) _).alloc _
            case measure => simp [intOf]
          · have hgb : decide (y.id > x.id) = false := decide_eq_false hgt
            have HS : Hid (((A' ++ [y]) ++ x :: Cc).Pairwise ltM) := by
              show ((A' ++ [y]) ++ x :: Cc).Pairwise ltM
              have h1 := List.pairwise_append.1 HI.out.1
              rw [List.pairwise_append]
              refine ⟨h1.1, ?_, fun z hz c hc => ?_⟩
              · rw [List.pairwise_cons]
                exact ⟨HI.out.2.1, h1.2.1⟩
              · have hyx : y.id < x.id := by omega
                have hzx : z.id < x.id := by
                  rcases List.mem_append.1 hz with hz | hz
                  · have h2 := (List.pairwise_append.1 h1.1).2.2 z hz y (by simp)
                    have h3 : z.id < y.id := h2
                    omega
                  · simp at hz; rw [hz]; exact hyx
                rcases List.mem_cons.1 hc with rfl | hc
                · exact hzx
                · have h4 := HI.out.2.1 c hc
                  show z.id < c.id
                  omega
            clear hgt hd2
            go_wp2_with fail
            go_quiet (fail)
            go_wp2_with fail
            go_roundw
            case rel => exact HDone.out _ (HI.out.2.2.2.1.later (below_drewN (Below.refl _ _) _)) (HI.out.2.2.2.2.1.drewN _) HS.out
            case measure => simp [intOf]; omega
    · have HS : Hid (M.Pairwise ltM) := by
        have h1 := HM.out.1
        rw [List.take_of_length_le (by rw [HLen.out]; omega)] at h1
        exact h1
      have i0 : decide ((a : Int) < (n : Int)) = false := decide_eq_false (by omega)
      go_wp2_with fail
      refine HK.out _ _ ?_
      exact HQ.out _ _ _ _ _ _ _ _ _ _ _ _ _ _ _ _ _ _ _ _ _ _ _ _ _ _ _ _ _ _ _ _ _ _ _ _ _ _ _ _ _ _ _ _ _ wo M HM.out.2.2.1 HM.out.2.1 HS.out HM.out.2.2.2
end Go.Proofs.Ybulkdkqw.lawS5586AWhole
