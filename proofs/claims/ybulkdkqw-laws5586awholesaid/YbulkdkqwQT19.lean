import Derived.Test.YbulkdkqwQT21
namespace Go.Proofs.Ybulkdkqw.lawS5586AWhole
open Go.ChangeShapes Go.WideShapes Go.ChangeAt Go.RowKit

set_option maxRecDepth 100000 in
/-- eqids of equal lists, that only draws. -/
theorem eqids_q {w : World} {B : Nat} {a1 a2 : Option Addr} {c1 c2 : Nat} (L : List Int) (h1 : In E64 w B a1 L) (h2 : In E64 w B a2 L) (hl : L.length ≤ 5000) :
    Calls Yba.prog 14 #[.slice a1 L.length c1, .slice a2 L.length c2] w fun e w' => e = .returned (.bool true) ∧ ∃ m, w' = w.drewN m := by
  have HI : Hid (In E64 w B a1 L ∧ In E64 w B a2 L) := ⟨h1, h2⟩
  clear h1 h2
  go_enter Yba.func14, Yba.ntmps14
  go_wp2_with fail
  go_loopw [5] (fun i wr => ∃ k : Nat, k ≤ L.length ∧ i = .int .i64 k ∧ ∃ m, wr = w.drewN m) (fun i _ => L.length - (intOf i).toNat)
  case atStart => exact ⟨0, Nat.zero_le _, rfl, 0, rfl⟩
  case round =>
    obtain ⟨k, hk, rfl, mm, hm⟩ := hrel
    have HM : Hid (wr = w.drewN mm) := hm
    have hc : ∀ p, wr.cell? p = w.cell? p := fun p => by rw [hm]; rfl
    clear hm
    by_cases hlt : k < L.length
    · obtain ⟨b1, o1, rfl, _, hc1⟩ := HI.out.1 (by omega)
      obtain ⟨b2, o2, rfl, _, hc2⟩ := HI.out.2 (by omega)
      obtain ⟨a, ha⟩ : ∃ a, L[k]? = some a := ⟨_, List.getElem?_eq_getElem hlt⟩
      have d1 := (hc ⟨b1, o1 + (k * E64.s + 0), none⟩).trans (hc1 k a ha 0 _ rfl)
      have d2 := (hc ⟨b2, o2 + (k * E64.s + 0), none⟩).trans (hc2 k a ha 0 _ rfl)
      simp only [E64, Nat.add_zero, Nat.mul_one] at d1 d2
      have HA : Hid (k < L.length) := hlt
      have i1 : (k : Int) < (L.length : Int) := by omega
      clear hc hc1 hc2 ha hlt
      go_wp2_with fail
      go_quiet (fail)
      go_wp2_with fail
      go_roundw
      case rel => exact ⟨k + 1, by have := HA.out; omega, by go_num, mm + nq, by rw [HM.out, World.drewN_drewN]⟩
      case measure => have := HA.out; simp [intOf]; omega
    · have hkn : k = L.length := by omega
      subst hkn
      clear hlt hc
      go_wp2_with fail
      go_ret
      exact ⟨rfl, mm, HM.out⟩

set_option linter.unusedVariables false in
set_option maxRecDepth 1000000 in
set_option maxHeartbeats 8000000 in
theorem t19 {v0 v1 v3 v4 v5 v6 v7 v8 v9 v10 v11 v12 v15 v16 v17 v18 v19 v21 v22 v23 v24 v25 v26 v27 v28 v29 v30 v31 v32 v33 v34 v38 v39 v40 v41 v42 v43 v44 v45 v46 v47 v48 v49 v50 v51 v52 v53 v54 v55 v56 v57 v58 v59 v60 v61 v62 v63 v64 v65 v66 v67 v68 v69 v70 v71 v72 v73 v74 v75 v76 v77 v78 v79 v80 v81 v82 v83 v84 v85 v86 v87 v88 v89 v90 v91 v92 v93 v94 v95 v96 v97 v98 v99 v100 v101 v102 v103 v104 v105 v106 v107 v108 v109 v110 v111 v112 v113 v114 v115 v116 v117 v118 v119 v120 v121 v122 v123 v124 v125 v126 v127 v128 v129 v130 v131 v132 v133 v134 v135 v136 v137 v138 v139 v140 v141 v142 v143 v144 v145 v146 v147 v148 v149 v150 v151 v152 v153 v154 v155 v156 v157 v158 v159 v160 v161 v162 v163 v164 v165 v166 v167 v168 v169 v170 v171 v172 v173 v174 v175 v176 v177 v178 v179 v180 v181 v182 v183 v184 v185 v186 v187 v188 v189 v190 v191 v192 v193 v194 v195 v196 v197 v198 v199 v200 v201 v202 v203 v204 v205 v206 v207 v208 v209 v210 v211 v212 v213 v214 v215 v216 v217 v218 v219 v220 v221 v222 v223 v224 v225 v226 v227 v228 v229 v230 v231 v232 v233 v234 v235 v236 v237 v238 v239 v240 v241 v242 v243 v244 v245 v246 v247 v248 v249 v250 v251 v252 v253 v254 v255 v256 v257 v258 v259 v260 v261 v262 v263 v264 v265 v266 v267 v268 v269 v270 v271 v272 v273 v274 v275 v276 v277 v278 v279 v280 v281 v282 v283 v284 v285 v286 v287 v288 v289 v290 v291 v292 v293 v294 v295 v296 v297 v298 v299 v300 v301 v302 v303 v304 v305 v306 v307 v308 v309 v310 v311 v312 v313 v314 v315 v316 v317 v318 v319 v320 v321 v322 v323 v324 v325 v326 v327 v328 v329 v330 v331 v332 v333 v334 v335 v336 v337 v338 v339 v340 v341 v342 v343 v344 v345 v346 v347 v348 v349 v350 v351 v352 v353 v354 v355 v356 v357 v358 v359 v360 v361 v362 v363 v364 v365 v366 v367 v368 v369 v370 v371 v372 v373 v374 v375 v376 v377 v378 v379 v380 v381 v382 v383 v384 v385 v386 v387 v388 v389 v390 v391 v392 v393 v394 v395 v396 v397 v398 v399 v400 v401 v402 v403 v404 v405 v406 v407 v408 v409 v410 v411 v412 v413 v414 v415 v416 v417 v418 v419 v420 v421 v422 v423 v424 v425 v426 v427 v428 v429 v430 v431 v432 v433 v434 v435 v436 v437 v438 v439 v440 v441 v442 v443 v444 v445 v446 v447 v448 v449 v450 v451 v452 v453 v454 v455 v456 v457 v458 v459 v460 v461 v462 v463 v464 v465 v466 v467 v468 v469 v470 v471 v472 v473 v474 v475 v476 v477 v478 v479 v480 v481 v482 v483 v484 v485 v486 v487 v488 v489 v490 v491 v492 v493 v494 v495 v496 v497 v498 v499 v500 v501 v502 v503 v504 v505 v506 v507 v508 v509 v510 v511 v512 v513 v514 v515 v516 v517 v518 v519 v520 v521 v522 v523 v524 v525 v526 v527 v528 v529 v530 v531 v532 v533 v534 v535 v536 v537 v538 v539 v540 v541 v542 v543 v544 v545 v546 v547 v548 v549 v550 v551 v552 v553 v554 v555 v556 v557 v558 v559 v560 v561 v562 v563 v564 v565 v566 v567 v568 v569 v570 v571 v572 v573 v574 v575 v576 v577 v578 v579 v580 v581 v582 v583 v584 v585 v586 v587 v588 v589 v590 v591 v592 v593 v594 v595 v596 v597 v598 v599 v600 v601 v602 v603 v604 v605 v606 v607 v608 v609 v610 v611 v612 v613 v614 v615 v616 v617 v618 v619 v620 v621 v622 v623 v624 v625 v626 v627 v628 v629 v630 v631 v632 v633 v634 v635 v636 v637 v638 v639 v640 v641 v642 v643 v644 v645 v646 v647 v648 v649 v650 v651 v652 v653 v654 v655 v656 v657 v658 v659 v660 v661 v662 v663 v664 v665 v666 v667 v668 v669 v670 v671 v672 v673 v674 v675 v676 v677 v678 v679 v680 v681 v682 v683 v684 v685 v686 : Value} (W w : World) (B Rb : Nat) (sf : Int) (vids : Value) (ids : List Int) (pm um nm mk : Nat) (ps : List Peer) (unm : List Int) (ucnt : Nat) (uao pa sa ra ga wa : Option Addr) (ucap pc sc rc gc wc : Nat) (Ms : List MP)
    (no : Nat) (KB : Nat → Nat) (FF : Nat → Int → Value) (SS : Nat → Int → List KM) (NN : Nat → Nat) (m C D C1 C2 : Nat) (S : List SR) (G : List (Msg × List Int))
    (hb : Below W.heap.size W w) (hRt : Rt w B Rb sf vids ids pm um nm mk ps unm ucnt) (hu : In E64 w W.heap.size uao unm) (hul : unm.length ≤ 1024) (huc : ucnt = dcnt unm unm.length) (hs : In E45 w w.heap.size sa Ms) (hids : ids = Ms.map (·.id)) (hil : ids.length ≤ 1024)
    (hkb : KBs ps mk no KB) (hKV : KV w no KB FF SS NN m) (hps : In E45 w w.heap.size pa (ps.map mpOf)) (hpf : ∀ p ∈ ps, U p.id ∧ ps.find? (fun q => q.id == p.id) = some p) (hpl : ps.length ≤ 1024)
    (hSer : Ser w C (.slice ra S.length rc) S) (hRel : Rel (S.map keyS) SS no) (hByt : ∀ r ∈ S, ∀ k ∈ r.items, Byt w D ⟨k.ao, k.len, k.cap⟩) (hD : D ≤ w.heap.size) (hSl : S.length ≤ 2000) (hIl : ∀ r ∈ S, r.items.length ≤ 5000)
    (hg : Got w C1 (.slice ga G.length gc) G) (hw : Got w C2 (.slice wa G.length wc) G) (hGl : G.length ≤ 2000) (hGb : ∀ x ∈ G, Byt w D x.1 ∧ x.2.length ≤ 2000) (code : Code) (hc : Yba.f3.body.map (tailN 19) = some code) :
    Code.wp Yba.prog code (bodyPost Yba.prog Yba.f3 (fun e w' => LawP W e w')) ⟨#[v0, v1, .slice uao unm.length ucap, v3, v4, v5, v6, v7, v8, v9, v10, v11, v12, .pointer (some ⟨Rb, 0, none⟩), .slice pa ps.length pc, v15, v16, v17, v18, v19, .slice sa ids.length sc, v21, v22, v23, v24, v25, v26, v27, v28, v29, v30, v31, v32, v33, v34, .slice ga G.length gc, .slice ra S.length rc, .slice wa G.length wc, v38, v39, v40, v41, v42, v43, v44, v45, v46, v47, v48, v49, v50, v51, v52, v53, v54, v55, v56, v57, v58, v59, v60, v61, v62, v63, v64, v65, v66, v67, v68, v69, v70, v71, v72, v73, v74, v75, v76, v77, v78, v79, v80, v81, v82, v83, v84, v85, v86, v87, v88, v89, v90, v91, v92, v93, v94, v95, v96, v97, v98, v99, v100, v101, v102, v103, v104, v105, v106, v107, v108, v109, v110, v111, v112, v113, v114, v115, v116, v117, v118, v119, v120, v121, v122, v123, v124, v125, v126, v127, v128, v129, v130, v131, v132, v133, v134, v135, v136, v137, v138, v139, v140, v141, v142, v143, v144, v145, v146, v147, v148, v149, v150, v151, v152, v153, v154, v155, v156, v157, v158, v159, v160, v161, v162, v163, v164, v165, v166, v167, v168, v169, v170, v171, v172, v173, v174, v175, v176, v177, v178, v179, v180, v181, v182, v183, v184, v185, v186, v187, v188, v189, v190, v191, v192, v193, v194, v195, v196, v197, v198, v199, v200, v201, v202, v203, v204, v205, v206, v207, v208, v209, v210, v211, v212, v213, v214, v215, v216, v217, v218, v219, v220, v221, v222, v223, v224, v225, v226, v227, v228, v229, v230, v231, v232, v233, v234, v235, v236, v237, v238, v239, v240, v241, v242, v243, v244, v245, v246, v247, v248, v249, v250, v251, v252, v253, v254, v255, v256, v257, v258, v259, v260, v261, v262, v263, v264, v265, v266, v267, v268, v269, v270, v271, v272, v273, v274, v275, v276, v277, v278, v279, v280, v281, v282, v283, v284, v285, v286, v287, v288, v289, v290, v291, v292, v293, v294, v295, v296, v297, v298, v299, v300, v301, v302, v303, v304, v305, v306, v307, v308, v309, v310, v311, v312, v313, v314, v315, v316, v317, v318, v319, v320, v321, v322, v323, v324, v325, v326, v327, v328, v329, v330, v331, v332, v333, v334, v335, v336, v337, v338, v339, v340, v341, v342, v343, v344, v345, v346, v347, v348, v349, v350, v351, v352, v353, v354, v355, v356, v357, v358, v359, v360, v361, v362, v363, v364, v365, v366, v367, v368, v369, v370, v371, v372, v373, v374, v375, v376, v377, v378, v379, v380, v381, v382, v383, v384, v385, v386, v387, v388, v389, v390, v391, v392, v393, v394, v395, v396, v397, v398, v399, v400, v401, v402, v403, v404, v405, v406, v407, v408, v409, v410, v411, v412, v413, v414, v415, v416, v417, v418, v419, v420, v421, v422, v423, v424, v425, v426, v427, v428, v429, v430, v431, v432, v433, v434, v435, v436, v437, v438, v439, v440, v441, v442, v443, v444, v445, v446, v447, v448, v449, v450, v451, v452, v453, v454, v455, v456, v457, v458, v459, v460, v461, v462, v463, v464, v465, v466, v467, v468, v469, v470, v471, v472, v473, v474, v475, v476, v477, v478, v479, v480, v481, v482, v483, v484, v485, v486, v487, v488, v489, v490, v491, v492, v493, v494, v495, v496, v497, v498, v499, v500, v501, v502, v503, v504, v505, v506, v507, v508, v509, v510, v511, v512, v513, v514, v515, v516, v517, v518, v519, v520, v521, v522, v523, v524, v525, v526, v527, v528, v529, v530, v531, v532, v533, v534, v535, v536, v537, v538, v539, v540, v541, v542, v543, v544, v545, v546, v547, v548, v549, v550, v551, v552, v553, v554, v555, v556, v557, v558, v559, v560, v561, v562, v563, v564, v565, v566, v567, v568, v569, v570, v571, v572, v573, v574, v575, v576, v577, v578, v579, v580, v581, v582, v583, v584, v585, v586, v587, v588, v589, v590, v591, v592, v593, v594, v595, v596, v597, v598, v599, v600, v601, v602, v603, v604, v605, v606, v607, v608, v609, v610, v611, v612, v613, v614, v615, v616, v617, v618, v619, v620, v621, v622, v623, v624, v625, v626, v627, v628, v629, v630, v631, v632, v633, v634, v635, v636, v637, v638, v639, v640, v641, v642, v643, v644, v645, v646, v647, v648, v649, v650, v651, v652, v653, v654, v655, v656, v657, v658, v659, v660, v661, v662, v663, v664, v665, v666, v667, v668, v669, v670, v671, v672, v673, v674, v675, v676, v677, v678, v679, v680, v681, v682, v683, v684, v685, v686], []⟩ w := by
  cases hc
  conv => arg 2; whnf
  have HB : Hid (Below W.heap.size W w) := hb
  have HRt : Hid (Rt w B Rb sf vids ids pm um nm mk ps unm ucnt) := hRt
  have HU : Hid (In E64 w W.heap.size uao unm) := hu
  have HUc : Hid (ucnt = dcnt unm unm.length) := huc
  have HS : Hid (In E45 w w.heap.size sa Ms) := hs
  have HIds : Hid (ids = Ms.map (·.id)) := hids
  have HKb : Hid (KBs ps mk no KB) := hkb
  have HKV : Hid (KV w no KB FF SS NN m) := hKV
  have HPs : Hid (In E45 w w.heap.size pa (ps.map mpOf)) := hps
  have HPf : Hid (∀ p ∈ ps, U p.id ∧ ps.find? (fun q => q.id == p.id) = some p) := hpf
  have HSer : Hid (Ser w C (.slice ra S.length rc) S) := hSer
  have HRel : Hid (Rel (S.map keyS) SS no) := hRel
  have HByt : Hid (∀ r ∈ S, ∀ k ∈ r.items, Byt w D ⟨k.ao, k.len, k.cap⟩) := hByt
  have HIl : Hid (∀ r ∈ S, r.items.length ≤ 5000) := hIl
  have HGb : Hid (∀ x ∈ G, Byt w D x.1 ∧ x.2.length ≤ 2000) := hGb
  obtain ⟨L1, s1, t1, e1⟩ := hg
  obtain ⟨L2, s2, t2, e2⟩ := hw
  have HL1 : Hid (In ER w w.heap.size ga L1 ∧ (∀ r ∈ L1, Sl E64 22 w C1 (.slice r.ta r.tl r.tc) r.ts) ∧ L1.map (fun r => ((⟨r.mo, r.ml, r.mc⟩ : Msg), r.ts)) = G) := ⟨In.of_sl s1, t1, e1⟩
  have HL2 : Hid (In ER w w.heap.size wa L2 ∧ (∀ r ∈ L2, Sl E64 22 w C2 (.slice r.ta r.tl r.tc) r.ts) ∧ L2.map (fun r => ((⟨r.mo, r.ml, r.mc⟩ : Msg), r.ts)) = G) := ⟨In.of_sl s2, t2, e2⟩
  have hWw : W.heap.size ≤ w.heap.size := hb.size
  clear hRt hb hu huc hs hids hkb hKV hps hpf hSer hRel hByt hIl hGb s1 t1 e1 s2 t2 e2
  refine wp_seq_k ?_
  intro K hK
  have HK := show Hid _ from hK
  clear hK
  go_wp2_with fail
  refine HK.out _ _ ?_
  clear HK K
  refine wp_seq_k ?_
  intro K hK
  have HK := show Hid _ from hK
  clear hK
  go_wp2_with fail
  go_loopw [57] (fun i wr => ∃ k : Nat, k ≤ G.length ∧ i = .int .i64 k ∧ Below w.heap.size w wr) (fun i _ => G.length - (intOf i).toNat)
  case atStart => exact ⟨0, Nat.zero_le _, rfl, Below.refl _ _⟩
  case round =>
    obtain ⟨k, hk, rfl, hb⟩ := hrel
    have HBr : Hid (Below w.heap.size w wr) := hb
    clear hb
    by_cases hlt : k < G.length
    · have hl1 : L1.length = G.length := by rw [← HL1.out.2.2, List.length_map]
      have hl2 : L2.length = G.length := by rw [← HL2.out.2.2, List.length_map]
      obtain ⟨b1, o1, rfl, hb1, hc1⟩ := HL1.out.1 (by omega)
      obtain ⟨b2, o2, rfl, hb2, hc2⟩ := HL2.out.1 (by omega)
      obtain ⟨r1, hr1⟩ : ∃ r, L1[k]? = some r := ⟨_, List.getElem?_eq_getElem (by omega)⟩
      obtain ⟨r2, hr2⟩ : ∃ r, L2[k]? = some r := ⟨_, List.getElem?_eq_getElem (by omega)⟩
      have g1 : G[k]? = some (⟨r1.mo, r1.ml, r1.mc⟩, r1.ts) := by rw [← HL1.out.2.2, List.getElem?_map, hr1]; rfl
      have g2 : G[k]? = some (⟨r2.mo, r2.ml, r2.mc⟩, r2.ts) := by rw [← HL2.out.2.2, List.getElem?_map, hr2]; rfl
      have hgm := List.mem_of_getElem? g1
      have hsl1 := HL1.out.2.1 r1 (List.mem_of_getElem? hr1)
      have hsl2 := HL2.out.2.1 r2 (List.mem_of_getElem? hr2)
      rw [g1] at g2
      injection g2 with g2
      injection g2 with g2 gts
      injection g2 with gm gl gc'
      have d10 := (HBr.out.cell (p := ⟨b1, o1 + (k * ER.s + 0), none⟩) (by show b1 < _; omega)).trans (hc1 k _ hr1 0 _ rfl)
      have d11 := (HBr.out.cell (p := ⟨b1, o1 + (k * ER.s + 1), none⟩) (by show b1 < _; omega)).trans (hc1 k _ hr1 1 _ rfl)
      have d20 := (HBr.out.cell (p := ⟨b2, o2 + (k * ER.s + 0), none⟩) (by show b2 < _; omega)).trans (hc2 k _ hr2 0 _ rfl)
      have d21 := (HBr.out.cell (p := ⟨b2, o2 + (k * ER.s + 1), none⟩) (by show b2 < _; omega)).trans (hc2 k _ hr2 1 _ rfl)
      simp only [ER, Nat.add_zero, ← Nat.add_assoc] at d10 d11 d20 d21
      obtain ⟨m1, l1, c1, ta1, tl1, tc1, ts1⟩ := r1
      obtain ⟨m2, l2, c2, ta2, tl2, tc2, ts2⟩ := r2
      simp only at gm gl gc' gts d10 d11 d20 d21 hgm hsl1 hsl2
      subst gm gl gc' gts
      have e1 : tl1 = ts1.length := by obtain ⟨_, _, e, _⟩ := hsl1.open; injection e with _ e _
      have e2 : tl2 = ts1.length := by obtain ⟨_, _, e, _⟩ := hsl2.open; injection e with _ e _
      subst e1 e2
      have hbm := HGb.out _ hgm
      have H13 : Hid (∀ n, Calls Yba.prog 13 #[.slice m1 l1 c1, .slice m1 l1 c1] (wr.drewN n) fun e w' => e = .returned (.bool true) ∧ w' = wr.drewN n) := fun n => bytesEq_any ⟨m1, l1, c1⟩ ((hbm.1.later (HBr.out.mono hD)).later (below_drewN (Below.refl _ _) n))
      have H14 : Hid (∀ n, Calls Yba.prog 14 #[.slice ta1 ts1.length tc1, .slice ta2 ts1.length tc2] (wr.drewN n) fun e w' => e = .returned (.bool true) ∧ ∃ m, w' = (wr.drewN n).drewN m) := fun n => eqids_q ts1 (((In.of_sl hsl1).later HBr.out).later (below_drewN (Below.refl _ _) n)) (((In.of_sl hsl2).later HBr.out).later (below_drewN (Below.refl _ _) n)) (Nat.le_trans hbm.2 (by omega))
      have HA : Hid (k < G.length) := hlt
      have i1 : (k : Int) < (G.length : Int) := by omega
      clear hc1 hc2 hr1 hr2 g1 hgm hsl1 hsl2 hbm hlt hl1 hl2
      go_wp2_with fail
      go_quiet (first | (go_at_call 13; exact Calls.quiet_of_same (H13.out _)) | (go_at_call 14; exact Calls.quiet_of (H14.out _)))
      go_wp2_with fail
      go_roundw
      case rel => exact ⟨k + 1, by have := HA.out; omega, by go_num, below_drewN HBr.out _⟩
      case measure => have := HA.out; simp [intOf]; omega
    · have hkn : k = G.length := by omega
      subst hkn
      clear hlt
      go_wp2_with fail
      refine HK.out _ _ ?_
      have hbr := HBr.out
      exact t21 W wr B Rb sf vids ids pm um nm mk ps unm ucnt uao pa sa ra ucap pc sc rc Ms no KB FF SS NN m C D S (HB.out.trans (hbr.mono hWw)) (HRt.out.later hbr) (HU.out.later (hbr.mono hWw)) hul HUc.out ((HS.out.later hbr).up hbr.size) HIds.out hil HKb.out (HKV.out.later hbr) ((HPs.out.later hbr).up hbr.size) HPf.out hpl ⟨HSer.out.1.later hbr, fun r hr => ⟨(HSer.out.2 r hr).1.later hbr, (HSer.out.2 r hr).2⟩⟩ HRel.out (fun r hr x hx => (HByt.out r hr x hx).later (hbr.mono hD)) (Nat.le_trans hD hbr.size) hSl HIl.out _ rfl
end Go.Proofs.Ybulkdkqw.lawS5586AWhole
