import Derived.Test.YbulkdkqwQT22
import Derived.Test.YbulkdkqwQRel2
namespace Go.Proofs.Ybulkdkqw.lawS5586AWhole
open Go.ChangeShapes Go.WideShapes Go.ChangeAt Go.RowKit

/-- The model's peers. -/
def mpOf (p : Peer) : MP := ⟨p.id, p.st, p.since⟩

set_option linter.unusedVariables false in
set_option maxRecDepth 1000000 in
set_option maxHeartbeats 8000000 in
theorem t21 {v0 v1 v3 v4 v5 v6 v7 v8 v9 v10 v11 v12 v15 v16 v17 v18 v19 v21 v22 v23 v24 v25 v26 v27 v28 v29 v30 v31 v32 v33 v34 v35 v37 v38 v39 v40 v41 v42 v43 v44 v45 v46 v47 v48 v49 v50 v51 v52 v53 v54 v55 v56 v57 v58 v59 v60 v61 v62 v63 v64 v65 v66 v67 v68 v69 v70 v71 v72 v73 v74 v75 v76 v77 v78 v79 v80 v81 v82 v83 v84 v85 v86 v87 v88 v89 v90 v91 v92 v93 v94 v95 v96 v97 v98 v99 v100 v101 v102 v103 v104 v105 v106 v107 v108 v109 v110 v111 v112 v113 v114 v115 v116 v117 v118 v119 v120 v121 v122 v123 v124 v125 v126 v127 v128 v129 v130 v131 v132 v133 v134 v135 v136 v137 v138 v139 v140 v141 v142 v143 v144 v145 v146 v147 v148 v149 v150 v151 v152 v153 v154 v155 v156 v157 v158 v159 v160 v161 v162 v163 v164 v165 v166 v167 v168 v169 v170 v171 v172 v173 v174 v175 v176 v177 v178 v179 v180 v181 v182 v183 v184 v185 v186 v187 v188 v189 v190 v191 v192 v193 v194 v195 v196 v197 v198 v199 v200 v201 v202 v203 v204 v205 v206 v207 v208 v209 v210 v211 v212 v213 v214 v215 v216 v217 v218 v219 v220 v221 v222 v223 v224 v225 v226 v227 v228 v229 v230 v231 v232 v233 v234 v235 v236 v237 v238 v239 v240 v241 v242 v243 v244 v245 v246 v247 v248 v249 v250 v251 v252 v253 v254 v255 v256 v257 v258 v259 v260 v261 v262 v263 v264 v265 v266 v267 v268 v269 v270 v271 v272 v273 v274 v275 v276 v277 v278 v279 v280 v281 v282 v283 v284 v285 v286 v287 v288 v289 v290 v291 v292 v293 v294 v295 v296 v297 v298 v299 v300 v301 v302 v303 v304 v305 v306 v307 v308 v309 v310 v311 v312 v313 v314 v315 v316 v317 v318 v319 v320 v321 v322 v323 v324 v325 v326 v327 v328 v329 v330 v331 v332 v333 v334 v335 v336 v337 v338 v339 v340 v341 v342 v343 v344 v345 v346 v347 v348 v349 v350 v351 v352 v353 v354 v355 v356 v357 v358 v359 v360 v361 v362 v363 v364 v365 v366 v367 v368 v369 v370 v371 v372 v373 v374 v375 v376 v377 v378 v379 v380 v381 v382 v383 v384 v385 v386 v387 v388 v389 v390 v391 v392 v393 v394 v395 v396 v397 v398 v399 v400 v401 v402 v403 v404 v405 v406 v407 v408 v409 v410 v411 v412 v413 v414 v415 v416 v417 v418 v419 v420 v421 v422 v423 v424 v425 v426 v427 v428 v429 v430 v431 v432 v433 v434 v435 v436 v437 v438 v439 v440 v441 v442 v443 v444 v445 v446 v447 v448 v449 v450 v451 v452 v453 v454 v455 v456 v457 v458 v459 v460 v461 v462 v463 v464 v465 v466 v467 v468 v469 v470 v471 v472 v473 v474 v475 v476 v477 v478 v479 v480 v481 v482 v483 v484 v485 v486 v487 v488 v489 v490 v491 v492 v493 v494 v495 v496 v497 v498 v499 v500 v501 v502 v503 v504 v505 v506 v507 v508 v509 v510 v511 v512 v513 v514 v515 v516 v517 v518 v519 v520 v521 v522 v523 v524 v525 v526 v527 v528 v529 v530 v531 v532 v533 v534 v535 v536 v537 v538 v539 v540 v541 v542 v543 v544 v545 v546 v547 v548 v549 v550 v551 v552 v553 v554 v555 v556 v557 v558 v559 v560 v561 v562 v563 v564 v565 v566 v567 v568 v569 v570 v571 v572 v573 v574 v575 v576 v577 v578 v579 v580 v581 v582 v583 v584 v585 v586 v587 v588 v589 v590 v591 v592 v593 v594 v595 v596 v597 v598 v599 v600 v601 v602 v603 v604 v605 v606 v607 v608 v609 v610 v611 v612 v613 v614 v615 v616 v617 v618 v619 v620 v621 v622 v623 v624 v625 v626 v627 v628 v629 v630 v631 v632 v633 v634 v635 v636 v637 v638 v639 v640 v641 v642 v643 v644 v645 v646 v647 v648 v649 v650 v651 v652 v653 v654 v655 v656 v657 v658 v659 v660 v661 v662 v663 v664 v665 v666 v667 v668 v669 v670 v671 v672 v673 v674 v675 v676 v677 v678 v679 v680 v681 v682 v683 v684 v685 v686 : Value} (W w : World) (B Rb : Nat) (sf : Int) (vids : Value) (ids : List Int) (pm um nm mk : Nat) (ps : List Peer) (unm : List Int) (ucnt : Nat) (uao pa sa ra : Option Addr) (ucap pc sc rc : Nat) (Ms : List MP)
    (no : Nat) (KB : Nat → Nat) (FF : Nat → Int → Value) (SS : Nat → Int → List KM) (NN : Nat → Nat) (m C D : Nat) (S : List SR)
    (hb : Below W.heap.size W w) (hRt : Rt w B Rb sf vids ids pm um nm mk ps unm ucnt) (hu : In E64 w W.heap.size uao unm) (hul : unm.length ≤ 1024) (huc : ucnt = dcnt unm unm.length) (hs : In E45 w w.heap.size sa Ms) (hids : ids = Ms.map (·.id)) (hil : ids.length ≤ 1024)
    (hkb : KBs ps mk no KB) (hKV : KV w no KB FF SS NN m) (hps : In E45 w w.heap.size pa (ps.map mpOf)) (hpf : ∀ p ∈ ps, U p.id ∧ ps.find? (fun q => q.id == p.id) = some p) (hpl : ps.length ≤ 1024)
    (hSer : Ser w C (.slice ra S.length rc) S) (hRel : Rel (S.map keyS) SS no) (hByt : ∀ r ∈ S, ∀ k ∈ r.items, Byt w D ⟨k.ao, k.len, k.cap⟩) (hD : D ≤ w.heap.size) (hSl : S.length ≤ 2000) (hIl : ∀ r ∈ S, r.items.length ≤ 5000) (code : Code) (hc : Yba.f3.body.map (tailN 21) = some code) :
    Code.wp Yba.prog code (bodyPost Yba.prog Yba.f3 (fun e w' => LawP W e w')) ⟨#[v0, v1, .slice uao unm.length ucap, v3, v4, v5, v6, v7, v8, v9, v10, v11, v12, .pointer (some ⟨Rb, 0, none⟩), .slice pa ps.length pc, v15, v16, v17, v18, v19, .slice sa ids.length sc, v21, v22, v23, v24, v25, v26, v27, v28, v29, v30, v31, v32, v33, v34, v35, .slice ra S.length rc, v37, v38, v39, v40, v41, v42, v43, v44, v45, v46, v47, v48, v49, v50, v51, v52, v53, v54, v55, v56, v57, v58, v59, v60, v61, v62, v63, v64, v65, v66, v67, v68, v69, v70, v71, v72, v73, v74, v75, v76, v77, v78, v79, v80, v81, v82, v83, v84, v85, v86, v87, v88, v89, v90, v91, v92, v93, v94, v95, v96, v97, v98, v99, v100, v101, v102, v103, v104, v105, v106, v107, v108, v109, v110, v111, v112, v113, v114, v115, v116, v117, v118, v119, v120, v121, v122, v123, v124, v125, v126, v127, v128, v129, v130, v131, v132, v133, v134, v135, v136, v137, v138, v139, v140, v141, v142, v143, v144, v145, v146, v147, v148, v149, v150, v151, v152, v153, v154, v155, v156, v157, v158, v159, v160, v161, v162, v163, v164, v165, v166, v167, v168, v169, v170, v171, v172, v173, v174, v175, v176, v177, v178, v179, v180, v181, v182, v183, v184, v185, v186, v187, v188, v189, v190, v191, v192, v193, v194, v195, v196, v197, v198, v199, v200, v201, v202, v203, v204, v205, v206, v207, v208, v209, v210, v211, v212, v213, v214, v215, v216, v217, v218, v219, v220, v221, v222, v223, v224, v225, v226, v227, v228, v229, v230, v231, v232, v233, v234, v235, v236, v237, v238, v239, v240, v241, v242, v243, v244, v245, v246, v247, v248, v249, v250, v251, v252, v253, v254, v255, v256, v257, v258, v259, v260, v261, v262, v263, v264, v265, v266, v267, v268, v269, v270, v271, v272, v273, v274, v275, v276, v277, v278, v279, v280, v281, v282, v283, v284, v285, v286, v287, v288, v289, v290, v291, v292, v293, v294, v295, v296, v297, v298, v299, v300, v301, v302, v303, v304, v305, v306, v307, v308, v309, v310, v311, v312, v313, v314, v315, v316, v317, v318, v319, v320, v321, v322, v323, v324, v325, v326, v327, v328, v329, v330, v331, v332, v333, v334, v335, v336, v337, v338, v339, v340, v341, v342, v343, v344, v345, v346, v347, v348, v349, v350, v351, v352, v353, v354, v355, v356, v357, v358, v359, v360, v361, v362, v363, v364, v365, v366, v367, v368, v369, v370, v371, v372, v373, v374, v375, v376, v377, v378, v379, v380, v381, v382, v383, v384, v385, v386, v387, v388, v389, v390, v391, v392, v393, v394, v395, v396, v397, v398, v399, v400, v401, v402, v403, v404, v405, v406, v407, v408, v409, v410, v411, v412, v413, v414, v415, v416, v417, v418, v419, v420, v421, v422, v423, v424, v425, v426, v427, v428, v429, v430, v431, v432, v433, v434, v435, v436, v437, v438, v439, v440, v441, v442, v443, v444, v445, v446, v447, v448, v449, v450, v451, v452, v453, v454, v455, v456, v457, v458, v459, v460, v461, v462, v463, v464, v465, v466, v467, v468, v469, v470, v471, v472, v473, v474, v475, v476, v477, v478, v479, v480, v481, v482, v483, v484, v485, v486, v487, v488, v489, v490, v491, v492, v493, v494, v495, v496, v497, v498, v499, v500, v501, v502, v503, v504, v505, v506, v507, v508, v509, v510, v511, v512, v513, v514, v515, v516, v517, v518, v519, v520, v521, v522, v523, v524, v525, v526, v527, v528, v529, v530, v531, v532, v533, v534, v535, v536, v537, v538, v539, v540, v541, v542, v543, v544, v545, v546, v547, v548, v549, v550, v551, v552, v553, v554, v555, v556, v557, v558, v559, v560, v561, v562, v563, v564, v565, v566, v567, v568, v569, v570, v571, v572, v573, v574, v575, v576, v577, v578, v579, v580, v581, v582, v583, v584, v585, v586, v587, v588, v589, v590, v591, v592, v593, v594, v595, v596, v597, v598, v599, v600, v601, v602, v603, v604, v605, v606, v607, v608, v609, v610, v611, v612, v613, v614, v615, v616, v617, v618, v619, v620, v621, v622, v623, v624, v625, v626, v627, v628, v629, v630, v631, v632, v633, v634, v635, v636, v637, v638, v639, v640, v641, v642, v643, v644, v645, v646, v647, v648, v649, v650, v651, v652, v653, v654, v655, v656, v657, v658, v659, v660, v661, v662, v663, v664, v665, v666, v667, v668, v669, v670, v671, v672, v673, v674, v675, v676, v677, v678, v679, v680, v681, v682, v683, v684, v685, v686], []⟩ w := by
  cases hc
  conv => arg 2; whnf
  have HB : Hid (Below W.heap.size W w) := hb
  have HRt : Hid (Rt w B Rb sf vids ids pm um nm mk ps unm ucnt) := hRt
  have HU : Hid (In E64 w W.heap.size uao unm) := hu
  have HUc : Hid (ucnt = dcnt unm unm.length) := huc
  have HS : Hid (In E45 w w.heap.size sa Ms) := hs
  have HIds : Hid (ids = Ms.map (·.id)) := hids
  have HKb : Hid (KBs ps mk no KB) := hkb
  have HKV : Hid (KV w no KB FF SS NN m) := hKV
  have HPs : Hid (In E45 w w.heap.size pa (ps.map mpOf)) := hps
  have HPf : Hid (∀ p ∈ ps, U p.id ∧ ps.find? (fun q => q.id == p.id) = some p) := hpf
  have HSer : Hid (Ser w C (.slice ra S.length rc) S) := hSer
  have HSi : Hid (In E70 w w.heap.size ra S) := In.of_sl hSer.1
  have HRel : Hid (Rel (S.map keyS) SS no) := hRel
  have HByt : Hid (∀ r ∈ S, ∀ k ∈ r.items, Byt w D ⟨k.ao, k.len, k.cap⟩) := hByt
  have HIl : Hid (∀ r ∈ S, r.items.length ≤ 5000) := hIl
  have hno : no = ps.length + 1 := hkb.no
  have hWw : W.heap.size ≤ w.heap.size := hb.size
  clear hRt hb hu huc hs hids hkb hKV hps hpf hSer hRel hByt hIl
  refine wp_seq_k ?_
  intro K hK
  have HK := show Hid _ from hK
  clear hK
  go_wp2_with fail
  go_loopw [58] (fun i wr => ∃ o : Nat, o ≤ ps.length + 1 ∧ i = .int .i64 (ownI o) ∧ Below w.heap.size w wr) (fun i _ => ps.length + 1 - (intOf i + 1).toNat)
  case atStart => exact ⟨0, Nat.zero_le _, rfl, Below.refl _ _⟩
  case round =>
    obtain ⟨o, ho, rfl, hb⟩ := hrel
    have HBr : Hid (Below w.heap.size w wr) := hb
    clear hb
    obtain ⟨wo, hwo⟩ : ∃ wo, wo = wr := ⟨_, rfl⟩
    subst hwo
    cases o with
    | zero =>
      simp only [ownI]
      have c13 := (HRt.out.later HBr.out).c13
      have i0 : (-1 : Int) < (ps.length : Int) := by omega
      go_wp2_with fail
      clear c13
      go_loopw [61, 584] (fun c ix wr => ∃ k : Nat, k ≤ S.length ∧ ix = .int .i64 k ∧ c = .int .i64 ((((S.map keyS).take k).filter (ownB 0)).length : Int) ∧ Below w.heap.size w wr) (fun _ ix _ => S.length - (intOf ix).toNat)
      case atStart => exact ⟨0, Nat.zero_le _, rfl, rfl, HBr.out⟩
      case round =>
        obtain ⟨k, hk, rfl, rfl, hb⟩ := hrel
        have HBs : Hid (Below w.heap.size w wr) := hb
        clear hb
        by_cases hlt : k < S.length
        · obtain ⟨b7, o7, rfl, hb7, hc7⟩ := HSi.out (by omega)
          obtain ⟨⟨ro, rn, ria, ril, ric, rit⟩, hr⟩ : ∃ r, S[k]? = some r := ⟨_, List.getElem?_eq_getElem hlt⟩
          have d0 := (HBs.out.cell (p := ⟨b7, o7 + (k * E70.s + 0), none⟩) (by show b7 < _; omega)).trans (hc7 k _ hr 0 _ rfl)
          have d1 := (HBs.out.cell (p := ⟨b7, o7 + (k * E70.s + 1), none⟩) (by show b7 < _; omega)).trans (hc7 k _ hr 1 _ rfl)
          have d2 := (HBs.out.cell (p := ⟨b7, o7 + (k * E70.s + 2), none⟩) (by show b7 < _; omega)).trans (hc7 k _ hr 2 _ rfl)
          simp only [E70, Nat.add_zero, ← Nat.add_assoc] at d0 d1 d2
          have HA : Hid (S[k]? = some ⟨ro, rn, ria, ril, ric, rit⟩ ∧ k < S.length) := ⟨hr, hlt⟩
          have hmem := List.mem_of_getElem? hr
          have hil2 : ril = rit.length := by obtain ⟨_, _, e, _⟩ := (HSer.out.2 _ hmem).1.open; injection e with _ e _
          have i1 : (k : Int) < (S.length : Int) := by omega
          have hcl : (((S.map keyS).take k).filter (ownB 0)).length ≤ k := Nat.le_trans (List.length_filter_le _ _) (by simp; omega)
          have HF : Hid ((((S.map keyS).take (k + 1)).filter (ownB 0)).length = (((S.map keyS).take k).filter (ownB 0)).length + (if ownB 0 (ro, rn, rit) = true then 1 else 0)) := by
            show _ = _
            rw [List.take_add_one, List.getElem?_map, hr, List.filter_append, List.length_append]
            congr 1
            simp only [Option.map_some, Option.toList_some, List.filter_cons, List.filter_nil, keyS]
            split <;> rfl
          clear hc7 hr
          generalize hcn : (((S.map keyS).take k).filter (ownB 0)).length = cn at *
          clear hcn
          by_cases h1 : ro = -1
          · have h1b : (ro != -1) = false := by simpa using h1
            by_cases h2 : rit = []
            · have h2b : ((ril : Int) == 0) = true := by rw [hil2, h2]; simp
              have HF2 : Hid ((((S.map keyS).take (k + 1)).filter (ownB 0)).length = cn) := by show _ = _; rw [HF.out]; simp [ownB, h2]
              clear h1 h2 hlt hil2 hmem
              go_wp2_with fail
              go_roundw
              case rel => exact ⟨k + 1, by have := HA.out.2; omega, by go_num, by rw [HF2.out], nb HBs.out (Nat.le_refl _) _⟩
              case measure => have := HA.out.2; simp [intOf]; omega
            · have h2b : ((ril : Int) == 0) = false := by
                rw [hil2]
                cases rit with
                | nil => exact absurd rfl h2
                | cons _ _ => simp; omega
              have HF2 : Hid ((((S.map keyS).take (k + 1)).filter (ownB 0)).length = cn + 1) := by show _ = _; rw [HF.out]; simp [ownB, h1, h2, ownI]
              obtain ⟨o', ho', e1, e2, hun⟩ := HRel.out.look (ro, rn, rit) (List.mem_map.2 ⟨_, hmem, rfl⟩)
              simp only at e1 e2 hun
              have hoo : o' = 0 := ownI_inj (e1.symm.trans (h1.trans (by simp [ownI])))
              subst hoo
              have hne : SS (0) rn ≠ [] := by rw [e2]; exact h2
              obtain ⟨ga, gc, hgv, hgin⟩ := (HKV.out.row (0) rn ho' hne).in_
              rw [e2] at hgv hgin
              have HLk : Hid (∀ wq, Below w.heap.size w wq → (Instr.lookup 34 (.map (some (KB (0)))) (.int .u64 rn) true).run Yba.prog wq = .ok (.tuple #[.slice ga rit.length gc, .bool true]) wq) := fun wq hq => by
                have := ((HKV.out.map (0) ho').later hq).lookOk Yba.underlying34 (zero68 wq) hun
                rw [this]
                unfold mapOf
                rw [if_neg hne, hgv]
                rfl
              have HEq : Hid (∀ wq, Below w.heap.size w wq → Calls Yba.prog 15 #[.slice ga rit.length gc, .slice ria rit.length ric] wq fun e w' => e = .returned (.bool true) ∧ Below wq.heap.size wq w') := fun wq hq => by
                have hit := (HSer.out.2 _ hmem).1
                simp only [hil2] at hit
                exact eqk_any rit (hgin.later hq) ((In.of_sl hit).later hq) (fun x hx => (HByt.out _ hmem x hx).later (hq.mono hD)) (Nat.le_trans hD hq.size) (HIl.out _ hmem)
              have hlk := HLk.out (wr.alloc (.cells #[.int .i64 ro, .int .u64 rn, .slice ria ril ric] 70)) (HBs.out.trans ((nb (Below.refl _ _) (Nat.le_refl _) _).mono HBs.out.size))
              rw [HKb.out.mine] at hlk
              rw [hil2] at d2 hlk h2b
              clear h1 h2 hlt hil2 hmem e1 e2 hne hgv hgin
              go_wp2_with fail
              refine (HEq.out _ (HBs.out.trans ((nb (Below.refl _ _) (Nat.le_refl _) _).mono HBs.out.size))).mono ?_
              rintro e w2 ⟨rfl, hb2⟩
              have HB2 : Hid (Below w.heap.size w w2) := (nb HBs.out (Nat.le_refl _) _).trans (hb2.mono (by have := HBs.out.size; simp; omega))
              clear hb2
              go_wp2_with fail
              go_roundw
              case rel => exact ⟨k + 1, by have := HA.out.2; omega, by go_num, by rw [HF2.out]; go_num, HB2.out⟩
              case measure => have := HA.out.2; simp [intOf]; omega
          · have h1b : (ro != -1) = true := by simpa using h1
            have HF2 : Hid ((((S.map keyS).take (k + 1)).filter (ownB 0)).length = cn) := by show _ = _; rw [HF.out]; simp [ownB, h1, ownI]
            clear h1 hlt hil2 hmem
            go_wp2_with fail
            go_roundw
            case rel => exact ⟨k + 1, by have := HA.out.2; omega, by go_num, by rw [HF2.out], nb HBs.out (Nat.le_refl _) _⟩
            case measure => have := HA.out.2; simp [intOf]; omega
        · have hkn : k = S.length := by omega
          subst hkn
          clear hlt
          have hln := ((HKV.out.map (0) (by have := hno; omega)).later HBs.out).len Yba.underlying34
          have hcnt := HRel.out.count HKV.out (o := 0) (by have := hno; omega)
          rw [show ((S.map keyS).take S.length) = S.map keyS by rw [List.take_of_length_le (by simp)]]
          rw [← hcnt]
          rw [HKb.out.mine] at hln
          clear hcnt
          go_wp2_with fail
          go_roundw
          case rel => exact ⟨0 + 1, by omega, by simp, HBs.out⟩
          case measure => simp [intOf]
    | succ i =>
      simp only [ownI]
      by_cases hlt : i < ps.length
      · obtain ⟨p, hp⟩ : ∃ p, ps[i]? = some p := ⟨_, List.getElem?_eq_getElem hlt⟩
        have hpm := List.mem_of_getElem? hp
        obtain ⟨b4, o4, rfl, hb4, hc4⟩ := HPs.out (by simp; omega)
        have hpM : (ps.map mpOf)[i]? = some (mpOf p) := by rw [List.getElem?_map, hp]; rfl
        have d0 := (HBr.out.cell (p := ⟨b4, o4 + (i * E45.s + 0), none⟩) (by show b4 < _; omega)).trans (hc4 i _ hpM 0 _ rfl)
        have d1 := (HBr.out.cell (p := ⟨b4, o4 + (i * E45.s + 1), none⟩) (by show b4 < _; omega)).trans (hc4 i _ hpM 1 _ rfl)
        simp only [E45, mpOf, Nat.add_zero, ← Nat.add_assoc] at d0 d1
        have hRr := HRt.out.later HBr.out
        have c1 := hRr.c1
        have p0 := (hRr.peers p hpm).c0
        have p7 := (hRr.peers p hpm).c7
        have p8 := (hRr.peers p hpm).c8
        obtain ⟨hup, hfind⟩ := HPf.out p hpm
        have hlk : ∀ q, (Instr.lookup 27 (.map (some pm)) (.int .u64 p.id) false).run Yba.prog (wo.drewN q) = .ok (.pointer (some ⟨p.blk, 0, none⟩)) (wo.drewN q) := fun q => by
          have := (hRr.dr q).pmap.look Yba.underlying27 (zero74 _) hup
          simpa [pmF, hfind] using this
        have hlen : ∀ q ty, (Builtin.len_ #[29] ty #[.map (some p.hb)]).run Yba.prog (wo.drewN q) = .ok (.int .i64 ((0 : Nat) : Int)) (wo.drewN q) := fun q ty => ((hRr.dr q).peers p hpm).has.len Yba.underlying29 ty
        have HKe : Hid (KB (i + 1) = p.kb) := HKb.out.peer i p hp
        have HA0 : Hid (i < ps.length) := hlt
        have i1 : (i : Int) < (ps.length : Int) := by omega
        have i2 : decide ((i : Int) < 0) = false := decide_eq_false (by omega)
        clear hc4 hpM hRr hup hfind hp hlt
        go_wp2_with fail
        go_quiet (fail)
        generalize hq : wo.drewN _ = wq
        have HBq : Hid (Below w.heap.size w wq) := by subst hq; exact below_drewN HBr.out _
        have p0 : wq.cell? ⟨p.blk, 0, none⟩ = some (.int .u8 p.st) := by subst hq; exact p0
        have p7 : wq.cell? ⟨p.blk, 7, none⟩ = some (.map (some p.hb)) := by subst hq; exact p7
        have p8 : wq.cell? ⟨p.blk, 8, none⟩ = some (.map (some p.kb)) := by subst hq; exact p8
        have d1 : wq.cell? ⟨b4, o4 + i * 3 + 1, none⟩ = some (.int .u8 p.st) := by subst hq; exact d1
        have hlen : ∀ q ty, (Builtin.len_ #[29] ty #[.map (some p.hb)]).run Yba.prog (wq.drewN q) = .ok (.int .i64 ((0 : Nat) : Int)) (wq.drewN q) := fun q ty => (((HRt.out.later HBq.out).dr q).peers p hpm).has.len Yba.underlying29 ty
        clear hq
        go_wp2_with fail
        go_quiet (fail)
        generalize hq : wq.drewN _ = wz
        have HBz : Hid (Below w.heap.size w wz) := by subst hq; exact below_drewN HBq.out _
        have p8 : wz.cell? ⟨p.blk, 8, none⟩ = some (.map (some p.kb)) := by subst hq; exact p8
        clear hq
        have HBr := HBz
        clear hpm
        go_wp2_with fail
        go_loopw [61, 584] (fun c ix wr => ∃ k : Nat, k ≤ S.length ∧ ix = .int .i64 k ∧ c = .int .i64 ((((S.map keyS).take k).filter (ownB (i + 1))).length : Int) ∧ Below w.heap.size w wr) (fun _ ix _ => S.length - (intOf ix).toNat)
        case atStart => exact ⟨0, Nat.zero_le _, rfl, rfl, HBr.out⟩
        case round =>
          obtain ⟨k, hk, rfl, rfl, hb⟩ := hrel
          have HBs : Hid (Below w.heap.size w wr) := hb
          clear hb
          by_cases hlt : k < S.length
          · obtain ⟨b7, o7, rfl, hb7, hc7⟩ := HSi.out (by omega)
            obtain ⟨⟨ro, rn, ria, ril, ric, rit⟩, hr⟩ : ∃ r, S[k]? = some r := ⟨_, List.getElem?_eq_getElem hlt⟩
            have d0 := (HBs.out.cell (p := ⟨b7, o7 + (k * E70.s + 0), none⟩) (by show b7 < _; omega)).trans (hc7 k _ hr 0 _ rfl)
            have d1 := (HBs.out.cell (p := ⟨b7, o7 + (k * E70.s + 1), none⟩) (by show b7 < _; omega)).trans (hc7 k _ hr 1 _ rfl)
            have d2 := (HBs.out.cell (p := ⟨b7, o7 + (k * E70.s + 2), none⟩) (by show b7 < _; omega)).trans (hc7 k _ hr 2 _ rfl)
            simp only [E70, Nat.add_zero, ← Nat.add_assoc] at d0 d1 d2
            have HA : Hid (S[k]? = some ⟨ro, rn, ria, ril, ric, rit⟩ ∧ k < S.length) := ⟨hr, hlt⟩
            have hmem := List.mem_of_getElem? hr
            have hil2 : ril = rit.length := by obtain ⟨_, _, e, _⟩ := (HSer.out.2 _ hmem).1.open; injection e with _ e _
            have i1 : (k : Int) < (S.length : Int) := by omega
            have hcl : (((S.map keyS).take k).filter (ownB (i + 1))).length ≤ k := Nat.le_trans (List.length_filter_le _ _) (by simp; omega)
            have HF : Hid ((((S.map keyS).take (k + 1)).filter (ownB (i + 1))).length = (((S.map keyS).take k).filter (ownB (i + 1))).length + (if ownB (i + 1) (ro, rn, rit) = true then 1 else 0)) := by
              show _ = _
              rw [List.take_add_one, List.getElem?_map, hr, List.filter_append, List.length_append]
              congr 1
              simp only [Option.map_some, Option.toList_some, List.filter_cons, List.filter_nil, keyS]
              split <;> rfl
            clear hc7 hr
            generalize hcn : (((S.map keyS).take k).filter (ownB (i + 1))).length = cn at *
            clear hcn
            by_cases h1 : ro = (i : Int)
            · have h1b : (ro != (i : Int)) = false := by simpa using h1
              by_cases h2 : rit = []
              · have h2b : ((ril : Int) == 0) = true := by rw [hil2, h2]; simp
                have HF2 : Hid ((((S.map keyS).take (k + 1)).filter (ownB (i + 1))).length = cn) := by show _ = _; rw [HF.out]; simp [ownB, h2]
                clear h1 h2 hlt hil2 hmem
                go_wp2_with fail
                go_roundw
                case rel => exact ⟨k + 1, by have := HA.out.2; omega, by go_num, by rw [HF2.out], nb HBs.out (Nat.le_refl _) _⟩
                case measure => have := HA.out.2; simp [intOf]; omega
              · have h2b : ((ril : Int) == 0) = false := by
                  rw [hil2]
                  cases rit with
                  | nil => exact absurd rfl h2
                  | cons _ _ => simp; omega
                have HF2 : Hid ((((S.map keyS).take (k + 1)).filter (ownB (i + 1))).length = cn + 1) := by show _ = _; rw [HF.out]; simp [ownB, h1, h2, ownI]
                obtain ⟨o', ho', e1, e2, hun⟩ := HRel.out.look (ro, rn, rit) (List.mem_map.2 ⟨_, hmem, rfl⟩)
                simp only at e1 e2 hun
                have hoo : o' = (i + 1) := ownI_inj (e1.symm.trans (h1.trans (by simp [ownI])))
                subst hoo
                have hne : SS ((i + 1)) rn ≠ [] := by rw [e2]; exact h2
                obtain ⟨ga, gc, hgv, hgin⟩ := (HKV.out.row ((i + 1)) rn ho' hne).in_
                rw [e2] at hgv hgin
                have HLk : Hid (∀ wq, Below w.heap.size w wq → (Instr.lookup 34 (.map (some (KB ((i + 1))))) (.int .u64 rn) true).run Yba.prog wq = .ok (.tuple #[.slice ga rit.length gc, .bool true]) wq) := fun wq hq => by
                  have := ((HKV.out.map ((i + 1)) ho').later hq).lookOk Yba.underlying34 (zero68 wq) hun
                  rw [this]
                  unfold mapOf
                  rw [if_neg hne, hgv]
                  rfl
                have HEq : Hid (∀ wq, Below w.heap.size w wq → Calls Yba.prog 15 #[.slice ga rit.length gc, .slice ria rit.length ric] wq fun e w' => e = .returned (.bool true) ∧ Below wq.heap.size wq w') := fun wq hq => by
                  have hit := (HSer.out.2 _ hmem).1
                  simp only [hil2] at hit
                  exact eqk_any rit (hgin.later hq) ((In.of_sl hit).later hq) (fun x hx => (HByt.out _ hmem x hx).later (hq.mono hD)) (Nat.le_trans hD hq.size) (HIl.out _ hmem)
                have hlk := HLk.out (wr.alloc (.cells #[.int .i64 ro, .int .u64 rn, .slice ria ril ric] 70)) (HBs.out.trans ((nb (Below.refl _ _) (Nat.le_refl _) _).mono HBs.out.size))
                rw [HKe.out] at hlk
                rw [hil2] at d2 hlk h2b
                clear h1 h2 hlt hil2 hmem e1 e2 hne hgv hgin
                go_wp2_with fail
                refine (HEq.out _ (HBs.out.trans ((nb (Below.refl _ _) (Nat.le_refl _) _).mono HBs.out.size))).mono ?_
                rintro e w2 ⟨rfl, hb2⟩
                have HB2 : Hid (Below w.heap.size w w2) := (nb HBs.out (Nat.le_refl _) _).trans (hb2.mono (by have := HBs.out.size; simp; omega))
                clear hb2
                go_wp2_with fail
                go_roundw
                case rel => exact ⟨k + 1, by have := HA.out.2; omega, by go_num, by rw [HF2.out]; go_num, HB2.out⟩
                case measure => have := HA.out.2; simp [intOf]; omega
            · have h1b : (ro != (i : Int)) = true := by simpa using h1
              have HF2 : Hid ((((S.map keyS).take (k + 1)).filter (ownB (i + 1))).length = cn) := by show _ = _; rw [HF.out]; simp [ownB, h1, ownI]
              clear h1 hlt hil2 hmem
              go_wp2_with fail
              go_roundw
              case rel => exact ⟨k + 1, by have := HA.out.2; omega, by go_num, by rw [HF2.out], nb HBs.out (Nat.le_refl _) _⟩
              case measure => have := HA.out.2; simp [intOf]; omega
          · have hkn : k = S.length := by omega
            subst hkn
            clear hlt
            have hln := ((HKV.out.map ((i + 1)) (by have := hno; omega)).later HBs.out).len Yba.underlying34
            have hcnt := HRel.out.count HKV.out (o := (i + 1)) (by have := hno; omega)
            rw [show ((S.map keyS).take S.length) = S.map keyS by rw [List.take_of_length_le (by simp)]]
            rw [← hcnt]
            rw [HKe.out] at hln
            clear hcnt
            go_wp2_with fail
            go_roundw
            case rel => exact ⟨(i + 1) + 1, by omega, by simp, HBs.out⟩
            case measure => have := HA0.out; simp [intOf]; omega
      · have hin : i = ps.length := by omega
        subst hin
        clear hlt
        go_wp2_with fail
        refine HK.out _ _ ?_
        exact t22 W wo B Rb sf vids ids pm um nm mk ps unm ucnt uao pa sa ucap pc sc Ms (HB.out.trans (HBr.out.mono hWw)) (HRt.out.later HBr.out) (HU.out.later (HBr.out.mono hWw)) hul HUc.out ((HS.out.later HBr.out).up HBr.out.size) HIds.out hil _ rfl
end Go.Proofs.Ybulkdkqw.lawS5586AWhole
