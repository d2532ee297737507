import Derived.Test.YbulkdkqwQT7
import Derived.Laws.IdiomCopy
namespace Go.Proofs.Ybulkdkqw.lawS5586AWhole
open Go.ChangeShapes Go.WideShapes Go.ChangeAt Go.RowKit

theorem info45 : (Yba.prog.info? 45).map (fun i => (i.zero, i.size, i.bytes)) = some (some (.agg #[.int .u64 0, .int .u8 0, .int .u64 0]), 3, 24) := by kernel_rfl
theorem size45 : (Yba.prog.info? 45).map (·.size) = some 3 := by kernel_rfl
theorem make45 (w : World) (n : Nat) (hc : n ≤ 5000) :
    ∃ cur : Array Value, cur.size = n * 3 ∧ (Instr.makeSlice 41 (.int .i64 (n : Int)) (.int .i64 (n : Int))).run Yba.prog w = .ok (.slice (some ⟨w.heap.size, 0, none⟩) n n) (w.alloc (.cells cur 45)) := by
  cases hj : Yba.prog.info? 45 with
  | none => have := info45; simp [hj] at this
  | some j =>
    have hi := info45
    simp [hj] at hi
    obtain ⟨h1, h2, h3⟩ := hi
    have hbb : j.bytes * n ≤ 24 * 5000 := Nat.mul_le_mul (by omega) hc
    have hb' : (j.bytes : Int) * (n : Int) ≤ 281474976710656 := by
      have h : ((j.bytes * n : Nat) : Int) ≤ 281474976710656 := by omega
      rwa [Int.natCast_mul] at h
    have hr := run_make (P := Yba.prog) w 41 45 j _ Yba.underlying41 hj h1 .i64 .i64 (n : Int) (n : Int) (by omega) (Int.le_refl _) hb' (by omega)
    simp only [Int.toNat_natCast] at hr
    exact ⟨_, by rw [size_madeCells, h2], hr⟩

theorem copy_none3 (w : World) (d a : Option Addr) (dCap sCap : Nat) : (Builtin.copy_ #[41, 41] 3 #[.slice d 0 dCap, .slice a 0 sCap]).run Yba.prog w = .ok (goInt 0) w := by
  cases hq : Yba.prog.info? 45 with
  | none => have := info45; simp [hq] at this
  | some i =>
    have hl : ∀ (x : Addr), (loadCells x 0).run Yba.prog w = .ok #[] w := fun x => by simpa using run_loadCells_list (P := Yba.prog) w x [] (by simp)
    cases d <;> cases a <;> simp [Builtin.copy_, run_underlying Yba.underlying41, Builtin.lenOf, Builtin.firstCells, sizeOf, typeInfo, hq, storeCells, hl, Nat.min]

/-- copy of the peers into the row that was made. -/
theorem copy45 (w : World) (C g n : Nat) (pa : Option Addr) (pc : Nat) (M0 : List MP) (cur : Array Value) (hs : Sl E45 45 w C (.slice pa n pc) M0) (hg : w.heap[g]? = some (.cells cur 45 (0, 0))) (hcs : cur.size = n * 3) :
    ∃ v w', (Builtin.copy_ #[41, 41] 3 #[.slice (some ⟨g, 0, none⟩) n n, .slice pa n pc]).run Yba.prog w = .ok v w' ∧ RowM w' g n M0 ∧ w.grownBy w' (some g) := by
  obtain ⟨ao, cap, e, hop⟩ := hs.open
  injection e with e1 e2 e3
  subst e1 e3
  rcases Nat.eq_zero_or_pos M0.length with h0 | h0
  · have hn : n = 0 := by omega
    subst hn
    have hM : M0 = [] := List.eq_nil_of_length_eq_zero h0
    subst hM
    exact ⟨_, w, copy_none3 w _ _ _ _, ⟨⟨cur, hg, hcs⟩, rfl, by simp⟩, World.grownBy.refl w _⟩
  · obtain ⟨b, hb, _, hl, _, _, hc⟩ := hop h0
    subst hb
    have hfl : (E45.flat M0).length = n * 3 := by rw [flat_len, e2]; rfl
    have hget : ∀ (i : Nat) x, M0[i]? = some x → ∀ (j : Nat) u, (E45.cs x)[j]? = some u → (E45.flat M0)[i * 3 + j]? = some u := fun i x hx j u hu => by
      have hj : j < 3 := by
        rcases Nat.lt_or_ge j 3 with h | h
        · exact h
        · rw [List.getElem?_eq_none (by rw [E45.len]; exact h)] at hu; cases hu
      exact (flat_get E45 M0 i x j hx hj).trans hu
    have hsrc : ∀ j v, (E45.flat M0)[j]? = some v → w.cell? ((⟨b, 0, none⟩ : Addr).add j) = some v := fun j v hv => by
      have hadd : (⟨b, 0, none⟩ : Addr).add j = ⟨b, j, none⟩ := by unfold Addr.add; split <;> simp_all
      rw [hadd]
      have hjl : j < n * 3 := by
        have := (List.getElem?_eq_some_iff.1 hv).1
        omega
      have hi : j / 3 < M0.length := by omega
      have hx : M0[j / 3]? = some M0[j / 3] := List.getElem?_eq_getElem hi
      have hj : j % 3 < 3 := Nat.mod_lt _ (by omega)
      have hu : (E45.cs M0[j / 3])[j % 3]? = some ((E45.cs M0[j / 3])[j % 3]'(by rw [E45.len]; exact hj)) := List.getElem?_eq_getElem _
      have h1 := hget _ _ hx _ _ hu
      have h2 := hc _ _ hx _ _ hu
      have e3 : j / 3 * 3 + j % 3 = j := by omega
      have e4 : j / 3 * E45.s + j % 3 = j := e3
      rw [e3, hv] at h1
      rw [e4] at h2
      injection h1 with h1
      rw [h1]; exact h2
    have hone : ∀ v ∈ E45.flat M0, v.oneCell' = true := fun v hv => by
      unfold Enc.flat at hv
      obtain ⟨x, _, hx⟩ := List.mem_flatMap.1 hv
      exact E45.one x v hx
    have hrun := run_copy_gen (P := Yba.prog) w 41 41 3 45 g 0 n n n n pc 3 ⟨b, 0, none⟩ cur 45 (E45.flat M0) Yba.underlying41 size45 (Nat.min_self n) hg hfl (by omega) hsrc hone
    have hrow : (cur.toList.take 0 ++ E45.flat M0 ++ cur.toList.drop (0 + (E45.flat M0).length)).toArray = (E45.flat M0).toArray := by
      rw [List.take_zero, List.nil_append, List.drop_of_length_le (by rw [hfl]; simp; omega), List.append_nil]
    rw [hrow] at hrun
    refine ⟨_, _, hrun, ⟨⟨_, setRow_heap w g cur _ 45 _ hg, by simp [hfl]⟩, e2.symm, fun i x hx j u hu => ?_⟩, ?_⟩
    · have h1 := hget i x hx j u hu
      simp [World.cell?, setRow_heap w g cur _ 45 _ hg]
      exact h1
    · refine ⟨rfl, rfl, rfl, by simp, fun k hk hne => ?_⟩
      unfold World.setRow
      simp only
      rw [Array.getElem?_modify, if_neg (fun e => hne (by rw [e]))]

set_option linter.unusedVariables false in
set_option maxRecDepth 1000000 in
set_option maxHeartbeats 16000000 in
/-- The peers copied. -/
theorem t5 {v0 v1 v2 v3 v4 v5 v6 v7 v8 v9 v10 v11 v12 v13 v15 v16 v17 v18 v19 v20 v21 v22 v23 v24 v25 v26 v27 v28 v29 v30 v31 v32 v33 v34 v35 v36 v37 v38 v39 v40 v41 v42 v43 v44 v45 v46 v47 v48 v49 v50 v51 v52 v53 v54 v55 v56 v57 v58 v59 v60 v61 v62 v63 v64 v65 v66 v67 v68 v69 v70 v71 v72 v73 v74 v75 v76 v77 v78 v79 v80 v81 v82 v83 v84 v85 v86 v87 v88 v89 v90 v91 v92 v93 v94 v95 v96 v97 v98 v99 v100 v101 v102 v103 v104 v105 v106 v107 v108 v109 v110 v111 v112 v113 v114 v115 v116 v117 v118 v119 v120 v121 v122 v123 v124 v125 v126 v127 v128 v129 v130 v131 v132 v133 v134 v135 v136 v137 v138 v139 v140 v141 v142 v143 v144 v145 v146 v147 v148 v149 v150 v151 v152 v153 v154 v155 v156 v157 v158 v159 v160 v161 v162 v163 v164 v165 v166 v167 v168 v169 v170 v171 v172 v173 v174 v175 v176 v177 v178 v179 v180 v181 v182 v183 v184 v185 v186 v187 v188 v189 v190 v191 v192 v193 v194 v195 v196 v197 v198 v199 v200 v201 v202 v203 v204 v205 v206 v207 v208 v209 v210 v211 v212 v213 v214 v215 v216 v217 v218 v219 v220 v221 v222 v223 v224 v225 v226 v227 v228 v229 v230 v231 v232 v233 v234 v235 v236 v237 v238 v239 v240 v241 v242 v243 v244 v245 v246 v247 v248 v249 v250 v251 v252 v253 v254 v255 v256 v257 v258 v259 v260 v261 v262 v263 v264 v265 v266 v267 v268 v269 v270 v271 v272 v273 v274 v275 v276 v277 v278 v279 v280 v281 v282 v283 v284 v285 v286 v287 v288 v289 v290 v291 v292 v293 v294 v295 v296 v297 v298 v299 v300 v301 v302 v303 v304 v305 v306 v307 v308 v309 v310 v311 v312 v313 v314 v315 v316 v317 v318 v319 v320 v321 v322 v323 v324 v325 v326 v327 v328 v329 v330 v331 v332 v333 v334 v335 v336 v337 v338 v339 v340 v341 v342 v343 v344 v345 v346 v347 v348 v349 v350 v351 v352 v353 v354 v355 v356 v357 v358 v359 v360 v361 v362 v363 v364 v365 v366 v367 v368 v369 v370 v371 v372 v373 v374 v375 v376 v377 v378 v379 v380 v381 v382 v383 v384 v385 v386 v387 v388 v389 v390 v391 v392 v393 v394 v395 v396 v397 v398 v399 v400 v401 v402 v403 v404 v405 v406 v407 v408 v409 v410 v411 v412 v413 v414 v415 v416 v417 v418 v419 v420 v421 v422 v423 v424 v425 v426 v427 v428 v429 v430 v431 v432 v433 v434 v435 v436 v437 v438 v439 v440 v441 v442 v443 v444 v445 v446 v447 v448 v449 v450 v451 v452 v453 v454 v455 v456 v457 v458 v459 v460 v461 v462 v463 v464 v465 v466 v467 v468 v469 v470 v471 v472 v473 v474 v475 v476 v477 v478 v479 v480 v481 v482 v483 v484 v485 v486 v487 v488 v489 v490 v491 v492 v493 v494 v495 v496 v497 v498 v499 v500 v501 v502 v503 v504 v505 v506 v507 v508 v509 v510 v511 v512 v513 v514 v515 v516 v517 v518 v519 v520 v521 v522 v523 v524 v525 v526 v527 v528 v529 v530 v531 v532 v533 v534 v535 v536 v537 v538 v539 v540 v541 v542 v543 v544 v545 v546 v547 v548 v549 v550 v551 v552 v553 v554 v555 v556 v557 v558 v559 v560 v561 v562 v563 v564 v565 v566 v567 v568 v569 v570 v571 v572 v573 v574 v575 v576 v577 v578 v579 v580 v581 v582 v583 v584 v585 v586 v587 v588 v589 v590 v591 v592 v593 v594 v595 v596 v597 v598 v599 v600 v601 v602 v603 v604 v605 v606 v607 v608 v609 v610 v611 v612 v613 v614 v615 v616 v617 v618 v619 v620 v621 v622 v623 v624 v625 v626 v627 v628 v629 v630 v631 v632 v633 v634 v635 v636 v637 v638 v639 v640 v641 v642 v643 v644 v645 v646 v647 v648 v649 v650 v651 v652 v653 v654 v655 v656 v657 v658 v659 v660 v661 v662 v663 v664 v665 v666 v667 v668 v669 v670 v671 v672 v673 v674 v675 v676 v677 v678 v679 v680 v681 v682 v683 v684 v685 v686 : Value} (w : World) (C n : Nat) (pa : Option Addr) (pc : Nat) (M0 : List MP) (hs : Sl E45 45 w C (.slice pa n pc) M0) (hn : n ≤ 1024) (Q : Exit → Act → World → Prop)
    (hQ : ∀ (u135 u136 u137 u138 u139 u140 : Value) wz, RowM wz w.heap.size n M0 → Below w.heap.size w wz → Code.wp Yba.prog ((Yba.f3.body.map (tailN 7)).getD .skip) Q ⟨#[v0, v1, v2, v3, v4, v5, v6, v7, v8, v9, v10, v11, v12, v13, .slice pa n pc, v15, v16, v17, v18, v19, .slice (some ⟨w.heap.size, 0, none⟩) n n, v21, v22, v23, v24, v25, v26, v27, v28, v29, v30, v31, v32, v33, v34, v35, v36, v37, v38, v39, v40, v41, v42, v43, v44, v45, v46, v47, v48, v49, v50, v51, v52, v53, v54, v55, v56, v57, v58, v59, v60, v61, v62, v63, v64, v65, v66, v67, v68, v69, v70, v71, v72, v73, v74, v75, v76, v77, v78, v79, v80, v81, v82, v83, v84, v85, v86, v87, v88, v89, v90, v91, v92, v93, v94, v95, v96, v97, v98, v99, v100, v101, v102, v103, v104, v105, v106, v107, v108, v109, v110, v111, v112, v113, v114, v115, v116, v117, v118, v119, v120, v121, v122, v123, v124, v125, v126, v127, v128, v129, v130, v131, v132, v133, v134, u135, u136, u137, u138, u139, u140, v141, v142, v143, v144, v145, v146, v147, v148, v149, v150, v151, v152, v153, v154, v155, v156, v157, v158, v159, v160, v161, v162, v163, v164, v165, v166, v167, v168, v169, v170, v171, v172, v173, v174, v175, v176, v177, v178, v179, v180, v181, v182, v183, v184, v185, v186, v187, v188, v189, v190, v191, v192, v193, v194, v195, v196, v197, v198, v199, v200, v201, v202, v203, v204, v205, v206, v207, v208, v209, v210, v211, v212, v213, v214, v215, v216, v217, v218, v219, v220, v221, v222, v223, v224, v225, v226, v227, v228, v229, v230, v231, v232, v233, v234, v235, v236, v237, v238, v239, v240, v241, v242, v243, v244, v245, v246, v247, v248, v249, v250, v251, v252, v253, v254, v255, v256, v257, v258, v259, v260, v261, v262, v263, v264, v265, v266, v267, v268, v269, v270, v271, v272, v273, v274, v275, v276, v277, v278, v279, v280, v281, v282, v283, v284, v285, v286, v287, v288, v289, v290, v291, v292, v293, v294, v295, v296, v297, v298, v299, v300, v301, v302, v303, v304, v305, v306, v307, v308, v309, v310, v311, v312, v313, v314, v315, v316, v317, v318, v319, v320, v321, v322, v323, v324, v325, v326, v327, v328, v329, v330, v331, v332, v333, v334, v335, v336, v337, v338, v339, v340, v341, v342, v343, v344, v345, v346, v347, v348, v349, v350, v351, v352, v353, v354, v355, v356, v357, v358, v359, v360, v361, v362, v363, v364, v365, v366, v367, v368, v369, v370, v371, v372, v373, v374, v375, v376, v377, v378, v379, v380, v381, v382, v383, v384, v385, v386, v387, v388, v389, v390, v391, v392, v393, v394, v395, v396, v397, v398, v399, v400, v401, v402, v403, v404, v405, v406, v407, v408, v409, v410, v411, v412, v413, v414, v415, v416, v417, v418, v419, v420, v421, v422, v423, v424, v425, v426, v427, v428, v429, v430, v431, v432, v433, v434, v435, v436, v437, v438, v439, v440, v441, v442, v443, v444, v445, v446, v447, v448, v449, v450, v451, v452, v453, v454, v455, v456, v457, v458, v459, v460, v461, v462, v463, v464, v465, v466, v467, v468, v469, v470, v471, v472, v473, v474, v475, v476, v477, v478, v479, v480, v481, v482, v483, v484, v485, v486, v487, v488, v489, v490, v491, v492, v493, v494, v495, v496, v497, v498, v499, v500, v501, v502, v503, v504, v505, v506, v507, v508, v509, v510, v511, v512, v513, v514, v515, v516, v517, v518, v519, v520, v521, v522, v523, v524, v525, v526, v527, v528, v529, v530, v531, v532, v533, v534, v535, v536, v537, v538, v539, v540, v541, v542, v543, v544, v545, v546, v547, v548, v549, v550, v551, v552, v553, v554, v555, v556, v557, v558, v559, v560, v561, v562, v563, v564, v565, v566, v567, v568, v569, v570, v571, v572, v573, v574, v575, v576, v577, v578, v579, v580, v581, v582, v583, v584, v585, v586, v587, v588, v589, v590, v591, v592, v593, v594, v595, v596, v597, v598, v599, v600, v601, v602, v603, v604, v605, v606, v607, v608, v609, v610, v611, v612, v613, v614, v615, v616, v617, v618, v619, v620, v621, v622, v623, v624, v625, v626, v627, v628, v629, v630, v631, v632, v633, v634, v635, v636, v637, v638, v639, v640, v641, v642, v643, v644, v645, v646, v647, v648, v649, v650, v651, v652, v653, v654, v655, v656, v657, v658, v659, v660, v661, v662, v663, v664, v665, v666, v667, v668, v669, v670, v671, v672, v673, v674, v675, v676, v677, v678, v679, v680, v681, v682, v683, v684, v685, v686], []⟩ wz)
    (code : Code) (hc : Yba.f3.body.map (tailN 5) = some code) :
    Code.wp Yba.prog code Q ⟨#[v0, v1, v2, v3, v4, v5, v6, v7, v8, v9, v10, v11, v12, v13, .slice pa n pc, v15, v16, v17, v18, v19, v20, v21, v22, v23, v24, v25, v26, v27, v28, v29, v30, v31, v32, v33, v34, v35, v36, v37, v38, v39, v40, v41, v42, v43, v44, v45, v46, v47, v48, v49, v50, v51, v52, v53, v54, v55, v56, v57, v58, v59, v60, v61, v62, v63, v64, v65, v66, v67, v68, v69, v70, v71, v72, v73, v74, v75, v76, v77, v78, v79, v80, v81, v82, v83, v84, v85, v86, v87, v88, v89, v90, v91, v92, v93, v94, v95, v96, v97, v98, v99, v100, v101, v102, v103, v104, v105, v106, v107, v108, v109, v110, v111, v112, v113, v114, v115, v116, v117, v118, v119, v120, v121, v122, v123, v124, v125, v126, v127, v128, v129, v130, v131, v132, v133, v134, v135, v136, v137, v138, v139, v140, v141, v142, v143, v144, v145, v146, v147, v148, v149, v150, v151, v152, v153, v154, v155, v156, v157, v158, v159, v160, v161, v162, v163, v164, v165, v166, v167, v168, v169, v170, v171, v172, v173, v174, v175, v176, v177, v178, v179, v180, v181, v182, v183, v184, v185, v186, v187, v188, v189, v190, v191, v192, v193, v194, v195, v196, v197, v198, v199, v200, v201, v202, v203, v204, v205, v206, v207, v208, v209, v210, v211, v212, v213, v214, v215, v216, v217, v218, v219, v220, v221, v222, v223, v224, v225, v226, v227, v228, v229, v230, v231, v232, v233, v234, v235, v236, v237, v238, v239, v240, v241, v242, v243, v244, v245, v246, v247, v248, v249, v250, v251, v252, v253, v254, v255, v256, v257, v258, v259, v260, v261, v262, v263, v264, v265, v266, v267, v268, v269, v270, v271, v272, v273, v274, v275, v276, v277, v278, v279, v280, v281, v282, v283, v284, v285, v286, v287, v288, v289, v290, v291, v292, v293, v294, v295, v296, v297, v298, v299, v300, v301, v302, v303, v304, v305, v306, v307, v308, v309, v310, v311, v312, v313, v314, v315, v316, v317, v318, v319, v320, v321, v322, v323, v324, v325, v326, v327, v328, v329, v330, v331, v332, v333, v334, v335, v336, v337, v338, v339, v340, v341, v342, v343, v344, v345, v346, v347, v348, v349, v350, v351, v352, v353, v354, v355, v356, v357, v358, v359, v360, v361, v362, v363, v364, v365, v366, v367, v368, v369, v370, v371, v372, v373, v374, v375, v376, v377, v378, v379, v380, v381, v382, v383, v384, v385, v386, v387, v388, v389, v390, v391, v392, v393, v394, v395, v396, v397, v398, v399, v400, v401, v402, v403, v404, v405, v406, v407, v408, v409, v410, v411, v412, v413, v414, v415, v416, v417, v418, v419, v420, v421, v422, v423, v424, v425, v426, v427, v428, v429, v430, v431, v432, v433, v434, v435, v436, v437, v438, v439, v440, v441, v442, v443, v444, v445, v446, v447, v448, v449, v450, v451, v452, v453, v454, v455, v456, v457, v458, v459, v460, v461, v462, v463, v464, v465, v466, v467, v468, v469, v470, v471, v472, v473, v474, v475, v476, v477, v478, v479, v480, v481, v482, v483, v484, v485, v486, v487, v488, v489, v490, v491, v492, v493, v494, v495, v496, v497, v498, v499, v500, v501, v502, v503, v504, v505, v506, v507, v508, v509, v510, v511, v512, v513, v514, v515, v516, v517, v518, v519, v520, v521, v522, v523, v524, v525, v526, v527, v528, v529, v530, v531, v532, v533, v534, v535, v536, v537, v538, v539, v540, v541, v542, v543, v544, v545, v546, v547, v548, v549, v550, v551, v552, v553, v554, v555, v556, v557, v558, v559, v560, v561, v562, v563, v564, v565, v566, v567, v568, v569, v570, v571, v572, v573, v574, v575, v576, v577, v578, v579, v580, v581, v582, v583, v584, v585, v586, v587, v588, v589, v590, v591, v592, v593, v594, v595, v596, v597, v598, v599, v600, v601, v602, v603, v604, v605, v606, v607, v608, v609, v610, v611, v612, v613, v614, v615, v616, v617, v618, v619, v620, v621, v622, v623, v624, v625, v626, v627, v628, v629, v630, v631, v632, v633, v634, v635, v636, v637, v638, v639, v640, v641, v642, v643, v644, v645, v646, v647, v648, v649, v650, v651, v652, v653, v654, v655, v656, v657, v658, v659, v660, v661, v662, v663, v664, v665, v666, v667, v668, v669, v670, v671, v672, v673, v674, v675, v676, v677, v678, v679, v680, v681, v682, v683, v684, v685, v686], []⟩ w := by
  cases hc
  conv => arg 2; whnf
  have HQ := show Hid _ from hQ
  obtain ⟨cur, hcs, hmk⟩ := make45 w n (by omega)
  obtain ⟨w1, hw1⟩ : ∃ w1, w1 = w.alloc (.cells cur 45) := ⟨_, rfl⟩
  have hb1 : Below w.heap.size w w1 := by rw [hw1]; exact nb (Below.refl _ _) (Nat.le_refl _) _
  have hg1 : w1.heap[w.heap.size]? = some (.cells cur 45 (0, 0)) := by rw [hw1]; exact Deep.blk_alloc_new _ _
  rw [← hw1] at hmk
  obtain ⟨v, w2, hcp, hR, hg2⟩ := copy45 w1 C w.heap.size n pa pc M0 cur (hs.later hb1) hg1 hcs
  have HR : Hid (RowM w2 w.heap.size n M0 ∧ Below w.heap.size w w2) := ⟨hR, hb1.trans (grown_below hg2 (fun k hk => by injection hk with hk; omega) hb1.size)⟩
  clear hQ hw1 hb1 hg1 hR hg2 hs hcs
  refine wp_seq_k ?_
  intro K hK
  have HK := show Hid _ from hK
  clear hK
  go_wp2_with fail
  refine HK.out _ _ ?_
  clear HK K hmk
  refine wp_seq_k ?_
  intro K hK
  have HK := show Hid _ from hK
  clear hK
  go_wp2_with (at_builtin; refine wpList_copy_run 41 3 hcp rfl _ _ rfl rfl rfl rfl ?_)
  refine HK.out _ _ ?_
  exact HQ.out _ _ _ _ _ _ w2 HR.out.1 HR.out.2
end Go.Proofs.Ybulkdkqw.lawS5586AWhole
