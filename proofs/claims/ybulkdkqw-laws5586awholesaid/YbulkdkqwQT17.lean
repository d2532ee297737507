import Derived.Test.YbulkdkqwQL70
import Derived.Test.YbulkdkqwQLens
namespace Go.Proofs.Ybulkdkqw.lawS5586AWhole
open Go.ChangeShapes Go.WideShapes Go.ChangeAt Go.RowKit

set_option linter.unusedVariables false in
set_option maxRecDepth 1000000 in
set_option maxHeartbeats 16000000 in
theorem t17 {v1 v5 v6 v7 v8 v9 v10 v11 v12 v15 v16 v17 v18 v19 v21 v22 v23 v24 v25 v26 v27 v28 v31 v32 v33 v34 v38 v39 v40 v41 v42 v43 v44 v45 v46 v47 v48 v49 v50 v51 v52 v53 v54 v55 v56 v57 v58 v59 v60 v61 v62 v63 v64 v65 v66 v67 v68 v69 v70 v71 v72 v73 v74 v75 v76 v77 v78 v79 v80 v81 v82 v83 v84 v85 v86 v87 v88 v89 v90 v91 v92 v93 v94 v95 v96 v97 v98 v99 v100 v101 v102 v103 v104 v105 v106 v107 v108 v109 v110 v111 v112 v113 v114 v115 v116 v117 v118 v119 v120 v121 v122 v123 v124 v125 v126 v127 v128 v129 v130 v131 v132 v133 v134 v135 v136 v137 v138 v139 v140 v141 v142 v143 v144 v145 v146 v147 v148 v149 v150 v151 v152 v153 v154 v155 v156 v157 v158 v159 v160 v161 v162 v163 v164 v165 v166 v167 v168 v169 v170 v171 v172 v173 v174 v175 v176 v177 v178 v179 v180 v181 v182 v183 v184 v185 v186 v187 v188 v189 v190 v191 v192 v193 v194 v195 v196 v197 v198 v199 v200 v201 v202 v203 v204 v205 v206 v207 v208 v209 v210 v211 v212 v213 v214 v215 v216 v217 v218 v219 v220 v221 v222 v223 v224 v225 v226 v227 v228 v229 v230 v231 v232 v233 v234 v235 v236 v237 v238 v239 v240 v241 v242 v243 v244 v245 v246 v247 v248 v249 v250 v251 v252 v253 v254 v255 v256 v257 v258 v259 v260 v261 v262 v263 v264 v265 v266 v267 v268 v269 v270 v271 v272 v273 v274 v275 v276 v277 v278 v279 v280 v281 v282 v283 v284 v285 v286 v287 v288 v289 v290 v291 v292 v293 v294 v295 v296 v297 v298 v299 v300 v301 v302 v303 v304 v305 v306 v307 v308 v309 v310 v311 v312 v313 v314 v315 v316 v317 v318 v319 v320 v321 v322 v323 v324 v325 v326 v327 v328 v329 v330 v331 v332 v333 v334 v335 v336 v337 v338 v339 v340 v341 v342 v343 v344 v345 v346 v347 v348 v349 v350 v351 v352 v353 v354 v355 v356 v357 v358 v359 v360 v361 v362 v363 v364 v365 v366 v367 v368 v369 v370 v371 v372 v373 v374 v375 v376 v377 v378 v379 v380 v381 v382 v383 v384 v385 v386 v387 v388 v389 v390 v391 v392 v393 v394 v395 v396 v397 v398 v399 v400 v401 v402 v403 v404 v405 v406 v407 v408 v409 v410 v411 v412 v413 v414 v415 v416 v417 v418 v419 v420 v421 v422 v423 v424 v425 v426 v427 v428 v429 v430 v431 v432 v433 v434 v435 v436 v437 v438 v439 v440 v441 v442 v443 v444 v445 v446 v447 v448 v449 v450 v451 v452 v453 v454 v455 v456 v457 v458 v459 v460 v461 v462 v463 v464 v465 v466 v467 v468 v469 v470 v471 v472 v473 v474 v475 v476 v477 v478 v479 v480 v481 v482 v483 v484 v485 v486 v487 v488 v489 v490 v491 v492 v493 v494 v495 v496 v497 v498 v499 v500 v501 v502 v503 v504 v505 v506 v507 v508 v509 v510 v511 v512 v513 v514 v515 v516 v517 v518 v519 v520 v521 v522 v523 v524 v525 v526 v527 v528 v529 v530 v531 v532 v533 v534 v535 v536 v537 v538 v539 v540 v541 v542 v543 v544 v545 v546 v547 v548 v549 v550 v551 v552 v553 v554 v555 v556 v557 v558 v559 v560 v561 v562 v563 v564 v565 v566 v567 v568 v569 v570 v571 v572 v573 v574 v575 v576 v577 v578 v579 v580 v581 v582 v583 v584 v585 v586 v587 v588 v589 v590 v591 v592 v593 v594 v595 v596 v597 v598 v599 v600 v601 v602 v603 v604 v605 v606 v607 v608 v609 v610 v611 v612 v613 v614 v615 v616 v617 v618 v619 v620 v621 v622 v623 v624 v625 v626 v627 v628 v629 v630 v631 v632 v633 v634 v635 v636 v637 v638 v639 v640 v641 v642 v643 v644 v645 v646 v647 v648 v649 v650 v651 v652 v653 v654 v655 v656 v657 v658 v659 v660 v661 v662 v663 v664 v665 v666 v667 v668 v669 v670 v671 v672 v673 v674 v675 v676 v677 v678 v679 v680 v681 v682 v683 v684 v685 v686 : Value} (W X : World) (B Rb : Nat) (sf us : Int) (vids : Value) (ids : List Int) (pm um nm mk : Nat) (ps : List Peer) (unm : List Int) (ucnt : Nat) (pairs : List (Int × Int)) (uao qao pa sa ga : Option Addr) (ucap qcap pc sc gc : Nat) (Ms : List MP)
    (no : Nat) (KB : Nat → Nat) (FF : Nat → Int → Value) (SS' : Nat → Int → List KM) (NN : Nat → Nat) (m C1 D cb mb ccap mcap : Nat) (xs : List (Env × Msg))
    (hX : Below W.heap.size W X) (hRt : Rt X B Rb sf vids ids pm um nm mk ps unm ucnt) (hu : In E64 X W.heap.size uao unm) (hul : unm.length ≤ 1024) (huc : ucnt = dcnt unm unm.length) (hq : In EP X W.heap.size qao pairs) (hql : pairs.length ≤ 1024) (hs : In E45 X X.heap.size sa Ms) (hM : SortM Ms ids ps sf) (hil : ids.length ≤ 1024)
    (hkb : KBs ps mk no KB) (hKV : KV X no KB FF SS' NN m) (hSS : SS' = setl ps unm ids sf (runS ps unm ids sf (upF sf us pairs) (fun _ _ => []) xs) (fun a => decide (runS ps unm ids sf (upF sf us pairs) (fun _ _ => []) xs 0 a ≠ []))) (hps : In E45 X X.heap.size pa (ps.map mpOf)) (hpl : ps.length ≤ 1024)
    (hi : ∀ a, a ∈ ids ↔ ∃ p ∈ ps, p.id = a) (hxl : xs.length ≤ 1024) (hxu : ∀ x ∈ xs, U x.1.name)
    (hcl : cb < X.heap.size) (hce : ∀ (i : Nat) x, xs[i]? = some x → ∀ (j : Nat) u, (EE.cs x.1)[j]? = some u → X.cell? ⟨cb, i * 6 + j, none⟩ = some u) (hml : mb < X.heap.size) (hme : ∀ (i : Nat) x, xs[i]? = some x → X.cell? ⟨mb, i, none⟩ = some (.slice x.2.mo x.2.ml x.2.mc))
    (hBy : ∀ x ∈ xs, Byt X D x.2) (hD : D ≤ X.heap.size) (hg : Got X C1 (.slice ga (runG ps ids sf xs).length gc) (runG ps ids sf xs)) (code : Code) (hc : Yba.f3.body.map (tailN 17) = some code) :
    Code.wp Yba.prog code (bodyPost Yba.prog Yba.f3 (fun e w' => LawP W e w')) ⟨#[.int .u64 sf, v1, .slice uao unm.length ucap, .int .u64 us, .slice qao pairs.length qcap, v5, v6, v7, v8, v9, v10, v11, v12, .pointer (some ⟨Rb, 0, none⟩), .slice pa ps.length pc, v15, v16, v17, v18, v19, .slice sa ids.length sc, v21, v22, v23, v24, v25, v26, v27, v28, .slice (some ⟨cb, 0, none⟩) xs.length ccap, .slice (some ⟨mb, 0, none⟩) xs.length mcap, v31, v32, v33, v34, .slice ga (runG ps ids sf xs).length gc, .slice none 0 0, .slice none 0 0, v38, v39, v40, v41, v42, v43, v44, v45, v46, v47, v48, v49, v50, v51, v52, v53, v54, v55, v56, v57, v58, v59, v60, v61, v62, v63, v64, v65, v66, v67, v68, v69, v70, v71, v72, v73, v74, v75, v76, v77, v78, v79, v80, v81, v82, v83, v84, v85, v86, v87, v88, v89, v90, v91, v92, v93, v94, v95, v96, v97, v98, v99, v100, v101, v102, v103, v104, v105, v106, v107, v108, v109, v110, v111, v112, v113, v114, v115, v116, v117, v118, v119, v120, v121, v122, v123, v124, v125, v126, v127, v128, v129, v130, v131, v132, v133, v134, v135, v136, v137, v138, v139, v140, v141, v142, v143, v144, v145, v146, v147, v148, v149, v150, v151, v152, v153, v154, v155, v156, v157, v158, v159, v160, v161, v162, v163, v164, v165, v166, v167, v168, v169, v170, v171, v172, v173, v174, v175, v176, v177, v178, v179, v180, v181, v182, v183, v184, v185, v186, v187, v188, v189, v190, v191, v192, v193, v194, v195, v196, v197, v198, v199, v200, v201, v202, v203, v204, v205, v206, v207, v208, v209, v210, v211, v212, v213, v214, v215, v216, v217, v218, v219, v220, v221, v222, v223, v224, v225, v226, v227, v228, v229, v230, v231, v232, v233, v234, v235, v236, v237, v238, v239, v240, v241, v242, v243, v244, v245, v246, v247, v248, v249, v250, v251, v252, v253, v254, v255, v256, v257, v258, v259, v260, v261, v262, v263, v264, v265, v266, v267, v268, v269, v270, v271, v272, v273, v274, v275, v276, v277, v278, v279, v280, v281, v282, v283, v284, v285, v286, v287, v288, v289, v290, v291, v292, v293, v294, v295, v296, v297, v298, v299, v300, v301, v302, v303, v304, v305, v306, v307, v308, v309, v310, v311, v312, v313, v314, v315, v316, v317, v318, v319, v320, v321, v322, v323, v324, v325, v326, v327, v328, v329, v330, v331, v332, v333, v334, v335, v336, v337, v338, v339, v340, v341, v342, v343, v344, v345, v346, v347, v348, v349, v350, v351, v352, v353, v354, v355, v356, v357, v358, v359, v360, v361, v362, v363, v364, v365, v366, v367, v368, v369, v370, v371, v372, v373, v374, v375, v376, v377, v378, v379, v380, v381, v382, v383, v384, v385, v386, v387, v388, v389, v390, v391, v392, v393, v394, v395, v396, v397, v398, v399, v400, v401, v402, v403, v404, v405, v406, v407, v408, v409, v410, v411, v412, v413, v414, v415, v416, v417, v418, v419, v420, v421, v422, v423, v424, v425, v426, v427, v428, v429, v430, v431, v432, v433, v434, v435, v436, v437, v438, v439, v440, v441, v442, v443, v444, v445, v446, v447, v448, v449, v450, v451, v452, v453, v454, v455, v456, v457, v458, v459, v460, v461, v462, v463, v464, v465, v466, v467, v468, v469, v470, v471, v472, v473, v474, v475, v476, v477, v478, v479, v480, v481, v482, v483, v484, v485, v486, v487, v488, v489, v490, v491, v492, v493, v494, v495, v496, v497, v498, v499, v500, v501, v502, v503, v504, v505, v506, v507, v508, v509, v510, v511, v512, v513, v514, v515, v516, v517, v518, v519, v520, v521, v522, v523, v524, v525, v526, v527, v528, v529, v530, v531, v532, v533, v534, v535, v536, v537, v538, v539, v540, v541, v542, v543, v544, v545, v546, v547, v548, v549, v550, v551, v552, v553, v554, v555, v556, v557, v558, v559, v560, v561, v562, v563, v564, v565, v566, v567, v568, v569, v570, v571, v572, v573, v574, v575, v576, v577, v578, v579, v580, v581, v582, v583, v584, v585, v586, v587, v588, v589, v590, v591, v592, v593, v594, v595, v596, v597, v598, v599, v600, v601, v602, v603, v604, v605, v606, v607, v608, v609, v610, v611, v612, v613, v614, v615, v616, v617, v618, v619, v620, v621, v622, v623, v624, v625, v626, v627, v628, v629, v630, v631, v632, v633, v634, v635, v636, v637, v638, v639, v640, v641, v642, v643, v644, v645, v646, v647, v648, v649, v650, v651, v652, v653, v654, v655, v656, v657, v658, v659, v660, v661, v662, v663, v664, v665, v666, v667, v668, v669, v670, v671, v672, v673, v674, v675, v676, v677, v678, v679, v680, v681, v682, v683, v684, v685, v686], []⟩ X := by
  cases hc
  conv => arg 2; whnf
  have hWX : W.heap.size ≤ X.heap.size := hX.size
  have HX : Hid (Below W.heap.size W X) := hX
  have HRt : Hid (Rt X B Rb sf vids ids pm um nm mk ps unm ucnt) := hRt
  have HU : Hid (In E64 X W.heap.size uao unm) := hu
  have HUc : Hid (ucnt = dcnt unm unm.length) := huc
  have HPr : Hid (In EP X W.heap.size qao pairs) := hq
  have HSo : Hid (In E45 X X.heap.size sa Ms) := hs
  have HM : Hid (SortM Ms ids ps sf) := hM
  have HKb0 : Hid (KBs ps mk no KB) := hkb
  have HKV : Hid (KV X no KB FF SS' NN m) := hKV
  have HSS : Hid (SS' = setl ps unm ids sf (runS ps unm ids sf (upF sf us pairs) (fun _ _ => []) xs) (fun a => decide (runS ps unm ids sf (upF sf us pairs) (fun _ _ => []) xs 0 a ≠ []))) := hSS
  have HPs : Hid (In E45 X X.heap.size pa (ps.map mpOf)) := hps
  have HIi : Hid (∀ a, a ∈ ids ↔ ∃ p ∈ ps, p.id = a) := hi
  have HXu : Hid (∀ x ∈ xs, U x.1.name) := hxu
  have HCe : Hid (∀ (i : Nat) x, xs[i]? = some x → ∀ (j : Nat) u, (EE.cs x.1)[j]? = some u → X.cell? ⟨cb, i * 6 + j, none⟩ = some u) := hce
  have HMe : Hid (∀ (i : Nat) (x : Env × Msg), xs[i]? = some x → X.cell? ⟨mb, i, none⟩ = some (.slice x.2.mo x.2.ml x.2.mc)) := hme
  have HBy : Hid (∀ x ∈ xs, Byt X D x.2) := hBy
  have HG : Hid (Got X C1 (.slice ga (runG ps ids sf xs).length gc) (runG ps ids sf xs)) := hg
  clear hX hRt hu huc hq hs hM hkb hKV hSS hps hi hxu hce hme hBy hg
  refine wp_seq_k ?_
  intro K hK
  have HK := show Hid _ from hK
  clear hK
  go_wp2_with fail
  go_loopw [36, 37, 279] (fun vs vw ix wr => ∃ k : Nat, k ≤ xs.length ∧ ix = .int .i64 k ∧ ∃ S, Ser wr X.heap.size vs S ∧ S.map keyS = runT ps unm ids sf (upF sf us pairs) (xs.take k) ∧ Got wr X.heap.size vw (runG ps ids sf (xs.take k)) ∧ Below X.heap.size X wr) (fun _ _ ix _ => xs.length - (intOf ix).toNat)
  case atStart => exact ⟨0, Nat.zero_le _, rfl, [], ⟨Sl.nil _ _, by simp⟩, rfl, Got.nil _ _, Below.refl _ _⟩
  case round =>
    obtain ⟨wo, hwo⟩ : ∃ wo, wo = wr := ⟨_, rfl⟩
    subst hwo
    obtain ⟨k, hk, rfl, S, hSer, hKey, hgw, hbx⟩ := hrel
    have HSer : Hid (Ser wo X.heap.size u36 S) := hSer
    have HKey : Hid (S.map keyS = runT ps unm ids sf (upF sf us pairs) (xs.take k)) := hKey
    have HGw : Hid (Got wo X.heap.size u37 (runG ps ids sf (xs.take k))) := hgw
    have HBX : Hid (Below X.heap.size X wo) := hbx
    have hXr : X.heap.size ≤ wo.heap.size := hbx.size
    have hf := runT_facts (ps := ps) (unm := unm) (ids := ids) (sf := sf) (up := upF sf us pairs) (xs.take k)
    have htk : (xs.take k).length ≤ k := by simp; omega
    have hSl : S.length ≤ k := by
      have h1 := hf.1
      rw [← hKey, List.length_map] at h1
      omega
    have hits : ∀ t ∈ runT ps unm ids sf (upF sf us pairs) (xs.take k), t.2.2.length ≤ 2000 := fun t ht => by have := hf.2.1 t ht; omega
    have hGl : (runG ps ids sf (xs.take k)).length ≤ k := runG_len _ _ _ _ _ htk
    clear hSer hKey hgw hbx hf htk
    by_cases hlt : k < xs.length
    · obtain ⟨⟨⟨eo, ei, es⟩, ⟨mo, ml, mc⟩⟩, hx⟩ : ∃ x, xs[k]? = some x := ⟨_, List.getElem?_eq_getElem hlt⟩
      have hcell : ∀ (j : Nat) u, (EE.cs ⟨eo, ei, es⟩)[j]? = some u → wo.cell? ⟨cb, k * 6 + j, none⟩ = some u := fun j u hu => (HBX.out.cell (p := ⟨cb, k * 6 + j, none⟩) hcl).trans (HCe.out k _ hx j u hu)
      have d0 := hcell 0 _ rfl
      have d1 := hcell 1 _ rfl
      have d2 := hcell 2 _ rfl
      have d3 := hcell 3 _ rfl
      have d4 := hcell 4 _ rfl
      have d5 := hcell 5 _ rfl
      simp only [Nat.add_zero] at d0
      have HA : Hid (xs[k]? = some (⟨eo, ei, es⟩, ⟨mo, ml, mc⟩) ∧ k < xs.length) := ⟨hx, hlt⟩
      have HSn : Hid (runT ps unm ids sf (upF sf us pairs) (xs.take (k + 1)) = stepT ps unm ids sf (upF sf us pairs) (runT ps unm ids sf (upF sf us pairs) (xs.take k)) (⟨eo, ei, es⟩, ⟨mo, ml, mc⟩) ∧ runG ps ids sf (xs.take (k + 1)) = stepG ps ids sf (runG ps ids sf (xs.take k)) (⟨eo, ei, es⟩, ⟨mo, ml, mc⟩)) := by
        constructor
        · unfold runT
          rw [List.take_add_one, hx, List.foldl_append]
          rfl
        · unfold runG
          rw [List.take_add_one, hx, List.foldl_append]
          rfl
      have i1 : (k : Int) < (xs.length : Int) := by omega
      clear hcell hx hlt
      refine wp_seq_k ?_
      intro K hK
      have HK := show Hid _ from hK
      clear hK
      go_wp2_with fail
      refine HK.out _ _ ?_
      refine wp_seq_k ?_
      intro K hK
      have HK := show Hid _ from hK
      clear hK
      go_wp2_with fail
      refine HK.out _ _ ?_
      refine wp_seq_k ?_
      intro Kb hKb
      have HKb := show Hid _ from hKb
      clear hKb
      refine wp_block ?_
      refine wp_seq_k ?_
      intro K hK
      have HK := show Hid _ from hK
      clear hK
      go_wp2_with fail
      refine HK.out _ _ ?_
      generalize hw3 : World.alloc _ _ = w3
      have HBn : Hid (Below wo.heap.size wo w3) := by subst hw3; exact nb (Below.refl _ _) (Nat.le_refl _) _
      have HX3 : Hid (Below X.heap.size X w3) := HBX.out.trans (HBn.out.mono hXr)
      have hblk : w3.heap[wo.heap.size]? = some (.cells #[.int .u64 eo, .int .u64 ei, .int .u64 es, .map none, .map none, .slice none 0 0] 56 (0, 0)) := by subst hw3; exact Deep.blk_alloc_new _ _
      have HEn : Hid ((∃ cur, w3.heap[wo.heap.size]? = some (.cells cur 56 (0, 0))) ∧ w3.cell? ⟨wo.heap.size, 0, none⟩ = some (.int .u64 eo) ∧ w3.cell? ⟨wo.heap.size, 2, none⟩ = some (.int .u64 es)) := ⟨⟨_, hblk⟩, by simp [World.cell?, hblk], by simp [World.cell?, hblk]⟩
      have x0 : w3.cell? ⟨wo.heap.size, 0, none⟩ = some (.int .u64 eo) := by simp [World.cell?, hblk]
      have x1 : w3.cell? ⟨wo.heap.size, 1, none⟩ = some (.int .u64 ei) := by simp [World.cell?, hblk]
      clear hw3 hblk d0 d1 d2 d3 d4 d5
      refine wp_seq_k ?_
      intro K hK
      have HK := show Hid _ from hK
      clear hK
      go_wp2_with fail
      refine HK.out _ _ ?_
      refine wp_seq_k ?_
      intro Kn hKn
      have HKn := show Hid _ from hKn
      clear hKn
      by_cases he0 : ei = 0
      · have he0b : (ei == 0) = true := by simpa using he0
        have HNm : Hid (Env.name ⟨eo, ei, es⟩ = eo) := by show _ = _; simp [Env.name, he0]
        clear he0
        go_wp2_with fail
        refine HKn.out _ _ ?_
        clear x0 x1 he0b
        refine Code.wp_mono (fun _ _ _ h => PQ.le h) (l70 W X w3 sf us unm ids ps pairs Ms uao qao pa sa ucap qcap pc sc mb xs.length mcap k wo.heap.size eo ei es eo mo ml mc u36 u37 S (runT ps unm ids sf (upF sf us pairs) (xs.take k)) (runG ps ids sf (xs.take k)) HNm.out hWX HX3.out HU.out hul HPr.out hql HPs.out hpl HSo.out HM.out hil (serLater HSer.out HBn.out) HKey.out (HGw.out.later HBn.out) (by omega) HEn.out.1 HEn.out.2.1 HEn.out.2.2 hml (HMe.out k _ HA.out.1) HA.out.2 (by omega) hits _ ?_ _ rfl)
        intro u41 u42 u43 u45 u46 u290 u291 u292 u293 u294 u295 u296 u297 u298 u299 u300 u301 u302 u303 u304 u305 u306 u307 u308 u309 u310 u311 u312 u313 u314 u315 u316 u317 u318 u319 u320 u321 u322 u323 u324 u325 u326 u327 u328 u329 u330 u331 u332 u333 u334 u335 u336 u337 u338 u339 u340 u341 u342 u343 u344 u345 u346 u347 u348 u349 u350 u351 u352 u353 u354 u355 u356 u357 u358 u359 u360 u361 u362 u363 u364 u365 u366 u367 u368 u369 u370 u371 u372 u373 u374 u375 u376 u377 u378 u379 u380 u381 u382 u383 u384 u385 u386 u387 u388 u389 u390 u391 u392 u393 u394 u395 u396 u397 u398 u399 u400 u401 u402 u403 u404 x36 x37 w' S' a1 a2 a3 a4
        have HR : Hid (∃ S, Ser w' X.heap.size x36 S ∧ S.map keyS = runT ps unm ids sf (upF sf us pairs) (xs.take (k + 1)) ∧ Got w' X.heap.size x37 (runG ps ids sf (xs.take (k + 1))) ∧ Below X.heap.size X w') := ⟨S', a1, by rw [HSn.out.1]; exact a2, by rw [HSn.out.2]; exact a3, a4⟩
        clear a1 a2 a3 a4
        constructor
        all_goals
          refine HKb.out _ _ ?_
          go_wp2_with fail
          go_roundw
          case rel =>
            obtain ⟨S', a1, a2, a3, a4⟩ := HR.out
            exact ⟨k + 1, by have := HA.out.2; omega, by go_num, S', a1, a2, a3, a4⟩
          case measure => have := HA.out.2; simp [intOf]; omega
      · have he0b : (ei == 0) = false := by simpa using he0
        have HNm : Hid (Env.name ⟨eo, ei, es⟩ = ei) := by show _ = _; simp [Env.name, he0]
        clear he0
        go_wp2_with fail
        refine HKn.out _ _ ?_
        clear x0 x1 he0b
        refine Code.wp_mono (fun _ _ _ h => PQ.le h) (l70 W X w3 sf us unm ids ps pairs Ms uao qao pa sa ucap qcap pc sc mb xs.length mcap k wo.heap.size eo ei es ei mo ml mc u36 u37 S (runT ps unm ids sf (upF sf us pairs) (xs.take k)) (runG ps ids sf (xs.take k)) HNm.out hWX HX3.out HU.out hul HPr.out hql HPs.out hpl HSo.out HM.out hil (serLater HSer.out HBn.out) HKey.out (HGw.out.later HBn.out) (by omega) HEn.out.1 HEn.out.2.1 HEn.out.2.2 hml (HMe.out k _ HA.out.1) HA.out.2 (by omega) hits _ ?_ _ rfl)
        intro u41 u42 u43 u45 u46 u290 u291 u292 u293 u294 u295 u296 u297 u298 u299 u300 u301 u302 u303 u304 u305 u306 u307 u308 u309 u310 u311 u312 u313 u314 u315 u316 u317 u318 u319 u320 u321 u322 u323 u324 u325 u326 u327 u328 u329 u330 u331 u332 u333 u334 u335 u336 u337 u338 u339 u340 u341 u342 u343 u344 u345 u346 u347 u348 u349 u350 u351 u352 u353 u354 u355 u356 u357 u358 u359 u360 u361 u362 u363 u364 u365 u366 u367 u368 u369 u370 u371 u372 u373 u374 u375 u376 u377 u378 u379 u380 u381 u382 u383 u384 u385 u386 u387 u388 u389 u390 u391 u392 u393 u394 u395 u396 u397 u398 u399 u400 u401 u402 u403 u404 x36 x37 w' S' a1 a2 a3 a4
        have HR : Hid (∃ S, Ser w' X.heap.size x36 S ∧ S.map keyS = runT ps unm ids sf (upF sf us pairs) (xs.take (k + 1)) ∧ Got w' X.heap.size x37 (runG ps ids sf (xs.take (k + 1))) ∧ Below X.heap.size X w') := ⟨S', a1, by rw [HSn.out.1]; exact a2, by rw [HSn.out.2]; exact a3, a4⟩
        clear a1 a2 a3 a4
        constructor
        all_goals
          refine HKb.out _ _ ?_
          go_wp2_with fail
          go_roundw
          case rel =>
            obtain ⟨S', a1, a2, a3, a4⟩ := HR.out
            exact ⟨k + 1, by have := HA.out.2; omega, by go_num, S', a1, a2, a3, a4⟩
          case measure => have := HA.out.2; simp [intOf]; omega
    · have hkn : k = xs.length := by omega
      subst hkn
      clear hlt
      go_wp2_with fail
      refine HK.out _ _ ?_
      have hser := HSer.out
      have hkey := HKey.out
      have hgw := HGw.out
      rw [List.take_length] at hkey hgw
      obtain ⟨ra, rc, hu36, _⟩ := hser.1.open
      subst hu36
      obtain ⟨wa, wc, hu37⟩ := hgw.len
      subst hu37
      have hRel := Rel.run (unm := unm) (ids := ids) (sf := sf) (up := upF sf us pairs) HKb0.out xs HXu.out
      have hft := runT_facts (ps := ps) (unm := unm) (ids := ids) (sf := sf) (up := upF sf us pairs) xs
      have hfg := runG_facts (ps := ps) (ids := ids) (sf := sf) xs
      have hgl := runG_len ps ids sf xs.length xs (Nat.le_refl _)
      have hvis : visB (runT ps unm ids sf (upF sf us pairs) xs) (runT ps unm ids sf (upF sf us pairs) xs).length = fun a => decide (runS ps unm ids sf (upF sf us pairs) (fun _ _ => []) xs 0 a ≠ []) := funext (fun a => vis_all hRel (by rw [HKb0.out.no]; omega) (runT_ne _ _ _ _ _ _) a)
      have hkv := HKV.out
      rw [HSS.out, ← hvis] at hkv
      have hnl : S.length = (runT ps unm ids sf (upF sf us pairs) xs).length := by rw [← hkey, List.length_map]
      exact t18 W X wo B Rb sf vids ids pm um nm mk ps unm ucnt uao pa sa ra ga wa ucap pc sc rc gc wc S.length Ms no KB FF (runS ps unm ids sf (upF sf us pairs) (fun _ _ => []) xs) NN m C1 D (runT ps unm ids sf (upF sf us pairs) xs) S (runG ps ids sf xs) hWX HX.out HBX.out HRt.out HU.out hul HUc.out HSo.out HM.out.ids hil HKb0.out hkv HPs.out HM.out.find hpl HIi.out hRel hser hkey (fun t ht x hx => by
        obtain ⟨y, hy, rfl⟩ := hft.2.2 t ht x hx
        exact HBy.out y hy) hD (by omega) (fun t ht => by have := hft.2.1 t ht; omega) HG.out hgw (by omega) (fun x hx => by
        obtain ⟨⟨y, hy, e⟩, hl⟩ := hfg x hx
        exact ⟨by rw [e]; exact HBy.out y hy, by omega⟩) _ rfl
end Go.Proofs.Ybulkdkqw.lawS5586AWhole
