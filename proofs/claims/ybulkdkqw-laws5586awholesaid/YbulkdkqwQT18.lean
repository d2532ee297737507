import Derived.Test.YbulkdkqwQT19
import Derived.Test.YbulkdkqwQPlain
namespace Go.Proofs.Ybulkdkqw.lawS5586AWhole
open Go.ChangeShapes Go.WideShapes Go.ChangeAt Go.RowKit

theorem psCells {X : World} {b4 o4 : Nat} {ps : List Peer} (hb4 : b4 < X.heap.size) (hc4 : ∀ (i : Nat) (x : MP), (ps.map mpOf)[i]? = some x → ∀ (j : Nat) (u : Value), (E45.cs x)[j]? = some u → X.cell? ⟨b4, o4 + (i * E45.s + j), none⟩ = some u) :
    ∀ (j : Nat) q, ps[j]? = some q → ∀ wq, Below X.heap.size X wq → wq.cell? ⟨b4, o4 + j * 3, none⟩ = some (.int .u64 q.id) ∧ wq.cell? ⟨b4, o4 + j * 3 + 1, none⟩ = some (.int .u8 q.st) ∧ wq.cell? ⟨b4, o4 + j * 3 + 2, none⟩ = some (.int .u64 q.since) := by
  intro j q hq wq hb
  have hpM : (ps.map mpOf)[j]? = some (mpOf q) := by rw [List.getElem?_map, hq]; rfl
  have d0 := (hb.cell (p := ⟨b4, o4 + (j * E45.s + 0), none⟩) hb4).trans (hc4 j _ hpM 0 _ rfl)
  have d1 := (hb.cell (p := ⟨b4, o4 + (j * E45.s + 1), none⟩) hb4).trans (hc4 j _ hpM 1 _ rfl)
  have d2 := (hb.cell (p := ⟨b4, o4 + (j * E45.s + 2), none⟩) hb4).trans (hc4 j _ hpM 2 _ rfl)
  simp only [E45, mpOf, Nat.add_zero, ← Nat.add_assoc] at d0 d1 d2
  exact ⟨d0, d1, d2⟩
theorem serLater {w w' : World} {B : Nat} {v : Value} {S : List SR} (h : Ser w B v S) (hb : Below w.heap.size w w') : Ser w' B v S := ⟨h.1.later hb, fun r hr => ⟨(h.2 r hr).1.later hb, (h.2 r hr).2⟩⟩
theorem leftM_len (ps : List Peer) (unm : List Int) (name : Int) (L : List KM) : (leftM ps unm name L).length ≤ L.length := by
  unfold leftM
  split
  · exact Nat.le_refl _
  · exact List.length_filter_le _ _
theorem TS_all {P : List KM → Prop} {ps : List Peer} {unm : List Int} {sf : Int} {T : TT} (hP : ∀ name L, P L → P (leftM ps unm name L)) (h : ∀ t ∈ T, P t.2.2) : ∀ k, ∀ t ∈ TS ps unm sf T k, P t.2.2
  | 0 => h
  | k + 1 => by
    have ih := TS_all (sf := sf) hP h k
    intro t ht
    have ht' : t ∈ settleT ps unm sf (TS ps unm sf T k) k := ht
    unfold settleT at ht'
    split at ht'
    · exact ih t ht'
    · split at ht'
      · exact ih t ht'
      · split at ht'
        · exact ih t ht'
        · obtain ⟨i, hi, e⟩ := List.getElem_of_mem ht'
          rw [List.getElem_modify] at e
          split at e
          · rw [← e]; exact hP _ _ (ih _ (List.getElem_mem (by simpa using hi)))
          · rw [← e]; exact ih _ (List.getElem_mem (by simpa using hi))

set_option linter.unusedVariables false in
set_option maxRecDepth 1000000 in
set_option maxHeartbeats 16000000 in
theorem t18 {v1 v3 v4 v5 v6 v7 v8 v9 v10 v11 v12 v15 v16 v17 v18 v19 v21 v22 v23 v24 v25 v26 v27 v28 v29 v30 v31 v32 v33 v34 v38 v39 v40 v41 v42 v43 v44 v45 v46 v47 v48 v49 v50 v51 v52 v53 v54 v55 v56 v57 v58 v59 v60 v61 v62 v63 v64 v65 v66 v67 v68 v69 v70 v71 v72 v73 v74 v75 v76 v77 v78 v79 v80 v81 v82 v83 v84 v85 v86 v87 v88 v89 v90 v91 v92 v93 v94 v95 v96 v97 v98 v99 v100 v101 v102 v103 v104 v105 v106 v107 v108 v109 v110 v111 v112 v113 v114 v115 v116 v117 v118 v119 v120 v121 v122 v123 v124 v125 v126 v127 v128 v129 v130 v131 v132 v133 v134 v135 v136 v137 v138 v139 v140 v141 v142 v143 v144 v145 v146 v147 v148 v149 v150 v151 v152 v153 v154 v155 v156 v157 v158 v159 v160 v161 v162 v163 v164 v165 v166 v167 v168 v169 v170 v171 v172 v173 v174 v175 v176 v177 v178 v179 v180 v181 v182 v183 v184 v185 v186 v187 v188 v189 v190 v191 v192 v193 v194 v195 v196 v197 v198 v199 v200 v201 v202 v203 v204 v205 v206 v207 v208 v209 v210 v211 v212 v213 v214 v215 v216 v217 v218 v219 v220 v221 v222 v223 v224 v225 v226 v227 v228 v229 v230 v231 v232 v233 v234 v235 v236 v237 v238 v239 v240 v241 v242 v243 v244 v245 v246 v247 v248 v249 v250 v251 v252 v253 v254 v255 v256 v257 v258 v259 v260 v261 v262 v263 v264 v265 v266 v267 v268 v269 v270 v271 v272 v273 v274 v275 v276 v277 v278 v279 v280 v281 v282 v283 v284 v285 v286 v287 v288 v289 v290 v291 v292 v293 v294 v295 v296 v297 v298 v299 v300 v301 v302 v303 v304 v305 v306 v307 v308 v309 v310 v311 v312 v313 v314 v315 v316 v317 v318 v319 v320 v321 v322 v323 v324 v325 v326 v327 v328 v329 v330 v331 v332 v333 v334 v335 v336 v337 v338 v339 v340 v341 v342 v343 v344 v345 v346 v347 v348 v349 v350 v351 v352 v353 v354 v355 v356 v357 v358 v359 v360 v361 v362 v363 v364 v365 v366 v367 v368 v369 v370 v371 v372 v373 v374 v375 v376 v377 v378 v379 v380 v381 v382 v383 v384 v385 v386 v387 v388 v389 v390 v391 v392 v393 v394 v395 v396 v397 v398 v399 v400 v401 v402 v403 v404 v405 v406 v407 v408 v409 v410 v411 v412 v413 v414 v415 v416 v417 v418 v419 v420 v421 v422 v423 v424 v425 v426 v427 v428 v429 v430 v431 v432 v433 v434 v435 v436 v437 v438 v439 v440 v441 v442 v443 v444 v445 v446 v447 v448 v449 v450 v451 v452 v453 v454 v455 v456 v457 v458 v459 v460 v461 v462 v463 v464 v465 v466 v467 v468 v469 v470 v471 v472 v473 v474 v475 v476 v477 v478 v479 v480 v481 v482 v483 v484 v485 v486 v487 v488 v489 v490 v491 v492 v493 v494 v495 v496 v497 v498 v499 v500 v501 v502 v503 v504 v505 v506 v507 v508 v509 v510 v511 v512 v513 v514 v515 v516 v517 v518 v519 v520 v521 v522 v523 v524 v525 v526 v527 v528 v529 v530 v531 v532 v533 v534 v535 v536 v537 v538 v539 v540 v541 v542 v543 v544 v545 v546 v547 v548 v549 v550 v551 v552 v553 v554 v555 v556 v557 v558 v559 v560 v561 v562 v563 v564 v565 v566 v567 v568 v569 v570 v571 v572 v573 v574 v575 v576 v577 v578 v579 v580 v581 v582 v583 v584 v585 v586 v587 v588 v589 v590 v591 v592 v593 v594 v595 v596 v597 v598 v599 v600 v601 v602 v603 v604 v605 v606 v607 v608 v609 v610 v611 v612 v613 v614 v615 v616 v617 v618 v619 v620 v621 v622 v623 v624 v625 v626 v627 v628 v629 v630 v631 v632 v633 v634 v635 v636 v637 v638 v639 v640 v641 v642 v643 v644 v645 v646 v647 v648 v649 v650 v651 v652 v653 v654 v655 v656 v657 v658 v659 v660 v661 v662 v663 v664 v665 v666 v667 v668 v669 v670 v671 v672 v673 v674 v675 v676 v677 v678 v679 v680 v681 v682 v683 v684 v685 v686 : Value} (W X w : World) (B Rb : Nat) (sf : Int) (vids : Value) (ids : List Int) (pm um nm mk : Nat) (ps : List Peer) (unm : List Int) (ucnt : Nat) (uao pa sa ra ga wa : Option Addr) (ucap pc sc rc gc wc n0 : Nat) (Ms : List MP)
    (no : Nat) (KB : Nat → Nat) (FF : Nat → Int → Value) (SS : Nat → Int → List KM) (NN : Nat → Nat) (m C1 D : Nat) (T : TT) (S0 : List SR) (G : List (Msg × List Int))
    (hWX : W.heap.size ≤ X.heap.size) (hX : Below W.heap.size W X) (hb : Below X.heap.size X w) (hRt : Rt X B Rb sf vids ids pm um nm mk ps unm ucnt) (hu : In E64 X W.heap.size uao unm) (hul : unm.length ≤ 1024) (huc : ucnt = dcnt unm unm.length) (hs : In E45 X X.heap.size sa Ms) (hids : ids = Ms.map (·.id)) (hil : ids.length ≤ 1024)
    (hkb : KBs ps mk no KB) (hKV : KV X no KB FF (setl ps unm ids sf SS (visB T T.length)) NN m) (hps : In E45 X X.heap.size pa (ps.map mpOf)) (hpf : ∀ p ∈ ps, U p.id ∧ ps.find? (fun q => q.id == p.id) = some p) (hpl : ps.length ≤ 1024)
    (hi : ∀ a, a ∈ ids ↔ ∃ p ∈ ps, p.id = a) (hRel : Rel T SS no)
    (hSer : Ser w X.heap.size (.slice ra n0 rc) S0) (hKey : S0.map keyS = T) (hByt : ∀ t ∈ T, ∀ k ∈ t.2.2, Byt X D ⟨k.ao, k.len, k.cap⟩) (hD : D ≤ X.heap.size) (hSl : T.length ≤ 2000) (hIl : ∀ t ∈ T, t.2.2.length ≤ 5000)
    (hg : Got X C1 (.slice ga G.length gc) G) (hw : Got w X.heap.size (.slice wa G.length wc) G) (hGl : G.length ≤ 2000) (hGb : ∀ x ∈ G, Byt X D x.1 ∧ x.2.length ≤ 2000) (code : Code) (hc : Yba.f3.body.map (tailN 18) = some code) :
    Code.wp Yba.prog code (bodyPost Yba.prog Yba.f3 (fun e w' => LawP W e w')) ⟨#[.int .u64 sf, v1, .slice uao unm.length ucap, v3, v4, v5, v6, v7, v8, v9, v10, v11, v12, .pointer (some ⟨Rb, 0, none⟩), .slice pa ps.length pc, v15, v16, v17, v18, v19, .slice sa ids.length sc, v21, v22, v23, v24, v25, v26, v27, v28, v29, v30, v31, v32, v33, v34, .slice ga G.length gc, .slice ra n0 rc, .slice wa G.length wc, v38, v39, v40, v41, v42, v43, v44, v45, v46, v47, v48, v49, v50, v51, v52, v53, v54, v55, v56, v57, v58, v59, v60, v61, v62, v63, v64, v65, v66, v67, v68, v69, v70, v71, v72, v73, v74, v75, v76, v77, v78, v79, v80, v81, v82, v83, v84, v85, v86, v87, v88, v89, v90, v91, v92, v93, v94, v95, v96, v97, v98, v99, v100, v101, v102, v103, v104, v105, v106, v107, v108, v109, v110, v111, v112, v113, v114, v115, v116, v117, v118, v119, v120, v121, v122, v123, v124, v125, v126, v127, v128, v129, v130, v131, v132, v133, v134, v135, v136, v137, v138, v139, v140, v141, v142, v143, v144, v145, v146, v147, v148, v149, v150, v151, v152, v153, v154, v155, v156, v157, v158, v159, v160, v161, v162, v163, v164, v165, v166, v167, v168, v169, v170, v171, v172, v173, v174, v175, v176, v177, v178, v179, v180, v181, v182, v183, v184, v185, v186, v187, v188, v189, v190, v191, v192, v193, v194, v195, v196, v197, v198, v199, v200, v201, v202, v203, v204, v205, v206, v207, v208, v209, v210, v211, v212, v213, v214, v215, v216, v217, v218, v219, v220, v221, v222, v223, v224, v225, v226, v227, v228, v229, v230, v231, v232, v233, v234, v235, v236, v237, v238, v239, v240, v241, v242, v243, v244, v245, v246, v247, v248, v249, v250, v251, v252, v253, v254, v255, v256, v257, v258, v259, v260, v261, v262, v263, v264, v265, v266, v267, v268, v269, v270, v271, v272, v273, v274, v275, v276, v277, v278, v279, v280, v281, v282, v283, v284, v285, v286, v287, v288, v289, v290, v291, v292, v293, v294, v295, v296, v297, v298, v299, v300, v301, v302, v303, v304, v305, v306, v307, v308, v309, v310, v311, v312, v313, v314, v315, v316, v317, v318, v319, v320, v321, v322, v323, v324, v325, v326, v327, v328, v329, v330, v331, v332, v333, v334, v335, v336, v337, v338, v339, v340, v341, v342, v343, v344, v345, v346, v347, v348, v349, v350, v351, v352, v353, v354, v355, v356, v357, v358, v359, v360, v361, v362, v363, v364, v365, v366, v367, v368, v369, v370, v371, v372, v373, v374, v375, v376, v377, v378, v379, v380, v381, v382, v383, v384, v385, v386, v387, v388, v389, v390, v391, v392, v393, v394, v395, v396, v397, v398, v399, v400, v401, v402, v403, v404, v405, v406, v407, v408, v409, v410, v411, v412, v413, v414, v415, v416, v417, v418, v419, v420, v421, v422, v423, v424, v425, v426, v427, v428, v429, v430, v431, v432, v433, v434, v435, v436, v437, v438, v439, v440, v441, v442, v443, v444, v445, v446, v447, v448, v449, v450, v451, v452, v453, v454, v455, v456, v457, v458, v459, v460, v461, v462, v463, v464, v465, v466, v467, v468, v469, v470, v471, v472, v473, v474, v475, v476, v477, v478, v479, v480, v481, v482, v483, v484, v485, v486, v487, v488, v489, v490, v491, v492, v493, v494, v495, v496, v497, v498, v499, v500, v501, v502, v503, v504, v505, v506, v507, v508, v509, v510, v511, v512, v513, v514, v515, v516, v517, v518, v519, v520, v521, v522, v523, v524, v525, v526, v527, v528, v529, v530, v531, v532, v533, v534, v535, v536, v537, v538, v539, v540, v541, v542, v543, v544, v545, v546, v547, v548, v549, v550, v551, v552, v553, v554, v555, v556, v557, v558, v559, v560, v561, v562, v563, v564, v565, v566, v567, v568, v569, v570, v571, v572, v573, v574, v575, v576, v577, v578, v579, v580, v581, v582, v583, v584, v585, v586, v587, v588, v589, v590, v591, v592, v593, v594, v595, v596, v597, v598, v599, v600, v601, v602, v603, v604, v605, v606, v607, v608, v609, v610, v611, v612, v613, v614, v615, v616, v617, v618, v619, v620, v621, v622, v623, v624, v625, v626, v627, v628, v629, v630, v631, v632, v633, v634, v635, v636, v637, v638, v639, v640, v641, v642, v643, v644, v645, v646, v647, v648, v649, v650, v651, v652, v653, v654, v655, v656, v657, v658, v659, v660, v661, v662, v663, v664, v665, v666, v667, v668, v669, v670, v671, v672, v673, v674, v675, v676, v677, v678, v679, v680, v681, v682, v683, v684, v685, v686], []⟩ w := by
  cases hc
  conv => arg 2; whnf
  have HX : Hid (Below W.heap.size W X) := hX
  have HRt : Hid (Rt X B Rb sf vids ids pm um nm mk ps unm ucnt) := hRt
  have HUn : Hid (In E64 X W.heap.size uao unm) := hu
  have HUc : Hid (ucnt = dcnt unm unm.length) := huc
  have HSo : Hid (In E45 X X.heap.size sa Ms) := hs
  have HIds : Hid (ids = Ms.map (·.id)) := hids
  have HKb : Hid (KBs ps mk no KB) := hkb
  have HKV : Hid (KV X no KB FF (setl ps unm ids sf SS (visB T T.length)) NN m) := hKV
  have HPs : Hid (In E45 X X.heap.size pa (ps.map mpOf)) := hps
  have HPf : Hid (∀ p ∈ ps, U p.id ∧ ps.find? (fun q => q.id == p.id) = some p) := hpf
  have HIi : Hid (∀ a, a ∈ ids ↔ ∃ p ∈ ps, p.id = a) := hi
  have HRel : Hid (Rel T SS no) := hRel
  have HByt : Hid (∀ t ∈ T, ∀ k ∈ t.2.2, Byt X D ⟨k.ao, k.len, k.cap⟩) := hByt
  have HIl : Hid (∀ t ∈ T, t.2.2.length ≤ 5000) := hIl
  have HG : Hid (Got X C1 (.slice ga G.length gc) G) := hg
  have HGb : Hid (∀ x ∈ G, Byt X D x.1 ∧ x.2.length ≤ 2000) := hGb
  have HS0 : Hid (Ser w X.heap.size (.slice ra n0 rc) S0 ∧ S0.map keyS = T ∧ Got w X.heap.size (.slice wa G.length wc) G ∧ Below X.heap.size X w) := ⟨hSer, hKey, hw, hb⟩
  have HN0 : Hid (n0 = T.length) := by obtain ⟨_, _, e, _⟩ := hSer.1.open; injection e with _ e _; show n0 = T.length; rw [e, ← hKey, List.length_map]
  have hn1 : n0 ≤ T.length := Nat.le_of_eq HN0.out
  have hn2 : T.length ≤ n0 := Nat.le_of_eq HN0.out.symm
  clear hX hRt hu huc hs hids hkb hKV hps hpf hi hRel hByt hIl hg hGb hSer hKey hw hb
  refine wp_seq_k ?_
  intro K hK
  have HK := show Hid _ from hK
  clear hK
  go_wp2_with fail
  go_loopw [47] (fun i wr => ∃ k : Nat, k ≤ T.length ∧ i = .int .i64 k ∧ ∃ S, Ser wr X.heap.size (.slice ra n0 rc) S ∧ S.map keyS = TS ps unm sf T k ∧ Below X.heap.size X wr ∧ Got wr X.heap.size (.slice wa G.length wc) G) (fun i _ => T.length - (intOf i).toNat)
  case atStart => exact ⟨0, Nat.zero_le _, rfl, S0, HS0.out.1, HS0.out.2.1, HS0.out.2.2.2, HS0.out.2.2.1⟩
  case round =>
    obtain ⟨wo, hwo⟩ : ∃ wo, wo = wr := ⟨_, rfl⟩
    subst hwo
    obtain ⟨k, hk, rfl, S, hSer, hKey, hbx, hgw⟩ := hrel
    have HSer : Hid (Ser wo X.heap.size (.slice ra n0 rc) S) := hSer
    have HKey : Hid (S.map keyS = TS ps unm sf T k) := hKey
    have HBX : Hid (Below X.heap.size X wo) := hbx
    have HGw : Hid (Got wo X.heap.size (.slice wa G.length wc) G) := hgw
    have hXr : X.heap.size ≤ wo.heap.size := hbx.size
    have HSl2 : Hid (S.length = n0) := by show S.length = n0; rw [HN0.out, ← len_TS ps unm sf T k, ← hKey, List.length_map]
    have hs1 : S.length ≤ n0 := Nat.le_of_eq HSl2.out
    have hs2 : n0 ≤ S.length := Nat.le_of_eq HSl2.out.symm
    have HSi : Hid (In E70 wo wo.heap.size ra S) := In.of_sl hSer.1
    clear hSer hKey hbx hgw
    by_cases hlt : k < n0
    · have hop := HSer.out.1.open
      obtain ⟨_, _, e, hop⟩ := hop
      obtain ⟨g, hra, hXg, hgl, _, hfz, hc7⟩ := hop (by omega)
      injection e with ea en ec
      rw [← ea] at hra
      subst hra
      clear ea en ec
      obtain ⟨⟨ro, rn, ria, ril, ric, rit⟩, hr⟩ : ∃ r, S[k]? = some r := ⟨_, List.getElem?_eq_getElem (by omega)⟩
      have HCell : Hid (∀ (i : Nat) x, S[i]? = some x → ∀ wq, Below wo.heap.size wo wq → ∀ (j : Nat) u, (E70.cs x)[j]? = some u → wq.cell? ⟨g, i * E70.s + j, none⟩ = some u) := fun i x hx wq hq j u hu => (hq.cell (p := ⟨g, i * E70.s + j, none⟩) hgl).trans (hc7 i x hx j u hu)
      have HFz : Hid (∀ wq, Below wo.heap.size wo wq → ∀ i, wq.frozen? ⟨g, i, none⟩ = false) := fun wq hq i => by
        have := hfz i
        simpa [World.frozen?, hq.block g hgl] using this
      have d0 := HCell.out k _ hr wo (Below.refl _ _) 0 _ rfl
      have d1 := HCell.out k _ hr wo (Below.refl _ _) 1 _ rfl
      simp only [E70, Nat.add_zero] at d0 d1
      have HA : Hid (S[k]? = some ⟨ro, rn, ria, ril, ric, rit⟩ ∧ k < T.length) := ⟨hr, by omega⟩
      have HTk : Hid ((TS ps unm sf T k)[k]? = some (ro, rn, rit)) := by show _ = _; rw [← HKey.out, List.getElem?_map, hr]; rfl
      have HIlS : Hid (∀ r ∈ S, r.items.length ≤ 5000) := fun r hr => TS_all (P := fun L => L.length ≤ 5000) (fun name L h => Nat.le_trans (leftM_len ps unm name L) h) HIl.out k (keyS r) (by rw [← HKey.out]; exact List.mem_map.2 ⟨r, hr, rfl⟩)
      have i1 : (k : Int) < (n0 : Int) := by omega
      clear hc7 hr hfz hop
      by_cases h1 : ro = -1
      · have h1b : (ro != -1) = false := by simpa using h1
        have HRo : Hid (ro = -1) := h1
        clear h1
        by_cases h2 : rn = sf
        · have h2b : (rn == sf) = true := by simpa using h2
          have HRn : Hid (rn = sf) := h2
          clear h2
          -- the entry that is settled: number k
          obtain ⟨⟨qo, qn, qa, ql, qc, qit⟩, hq⟩ : ∃ q, S[k]? = some q := ⟨_, List.getElem?_eq_getElem (by omega)⟩
          have hqs := HSer.out.2 _ (List.mem_of_getElem? hq)
          simp only at hqs
          have hql : ql = qit.length := by obtain ⟨_, _, e, _⟩ := hqs.1.open; injection e with _ e _
          subst hql
          have e2 := (HCell.out k _ hq wo (Below.refl wo.heap.size wo) 2 _ rfl)
          simp only [E70] at e2
          have HQ : Hid (S[k]? = some ⟨qo, qn, qa, qit.length, qc, qit⟩ ∧ k < S.length) := ⟨hq, by omega⟩
          have HQs : Hid (Sl EK 63 wo X.heap.size (.slice qa qit.length qc) qit ∧ Rising qit) := hqs
          have hqil : qit.length ≤ 5000 := HIlS.out _ (List.mem_of_getElem? hq)
          have HSet : Hid (TS ps unm sf T (k + 1) = (TS ps unm sf T k).modify k (fun x => (x.1, x.2.1, leftM ps unm rn x.2.2))) := by
            show settleT ps unm sf (TS ps unm sf T k) k = _
            unfold settleT
            rw [HTk.out]
            simp only
            rw [if_neg (by simpa using HRo.out), show tIdx ps sf (TS ps unm sf T k) k rn = some k by unfold tIdx; rw [if_pos HRn.out]]
          have hneg : decide ((k : Int) < 0) = false := decide_eq_false (by omega)
          have ilt : (k : Int) < (n0 : Int) := by omega
          have HMod : Hid (∀ f : List KM → List KM, f qit = qit → (TS ps unm sf T k).modify k (fun x => (x.1, x.2.1, f x.2.2)) = TS ps unm sf T k) := fun f hf => by
            rw [← HKey.out]
            apply List.ext_getElem?
            intro i
            rw [List.getElem?_modify, List.getElem?_map]
            by_cases e : k = i
            · subst e
              rw [HQ.out.1]
              simp [keyS, hf]
            · simp [e]
          have HMd : Hid (∀ (f : List KM → List KM) xa xl xc, (S.set k ⟨qo, qn, xa, xl, xc, f qit⟩).map keyS = (TS ps unm sf T k).modify k (fun x => (x.1, x.2.1, f x.2.2))) := fun f xa xl xc => by
            rw [← HKey.out]
            apply List.ext_getElem?
            intro i
            rw [List.getElem?_modify, List.getElem?_map, List.getElem?_map, List.getElem?_set]
            by_cases e : k = i
            · subst e
              have hq' : S[k] = ⟨qo, qn, qa, qit.length, qc, qit⟩ := by have := HQ.out.1; rw [List.getElem?_eq_getElem HQ.out.2] at this; injection this
              simp [HQ.out.2, keyS, hq']
            · simp [e]
          clear hq hqs
          by_cases hempty : qit = []
          · have hlb : ((qit.length : Int) == 0) = true := by rw [hempty]; simp
            have HSk : Hid (TS ps unm sf T (k + 1) = TS ps unm sf T k) := by
              show _ = _
              rw [HSet.out]
              exact HMod.out _ (by rw [hempty]; unfold leftM; split <;> rfl)
            clear hempty
            go_wp2_with fail
            go_roundw
            case rel => exact ⟨k + 1, by have := HA.out.2; omega, by go_num, S, serLater HSer.out (Below.refl wo.heap.size wo), by rw [HSk.out]; exact HKey.out, HBX.out.trans (((Below.refl wo.heap.size wo)).mono hXr), HGw.out.later (Below.refl wo.heap.size wo)⟩
            case measure => have := HA.out.2; simp [intOf]; omega
          · have hlb : ((qit.length : Int) == 0) = false := by
              cases qit with
              | nil => exact absurd rfl hempty
              | cons _ _ => simp; omega
            clear hempty
            go_wp2_with fail
            refine (mAwait_any unm rn (HUn.out.later ((HBX.out.trans (((Below.refl wo.heap.size wo)).mono hXr)).mono hWX)) (by omega)).mono ?_
            rintro e w9 ⟨rfl, hw9⟩
            obtain rfl := hw9.symm
            cases haw : awaitB unm rn with
            | true =>
              have HSk : Hid (TS ps unm sf T (k + 1) = TS ps unm sf T k) := by
                show _ = _
                rw [HSet.out]
                exact HMod.out _ (by unfold leftM; rw [if_pos haw])
              clear haw
              go_wp2_with fail
              go_roundw
              case rel => exact ⟨k + 1, by have := HA.out.2; omega, by go_num, S, serLater HSer.out (Below.refl wo.heap.size wo), by rw [HSk.out]; exact HKey.out, HBX.out.trans (((Below.refl wo.heap.size wo)).mono hXr), HGw.out.later (Below.refl wo.heap.size wo)⟩
              case measure => have := HA.out.2; simp [intOf]; omega
            | false =>
              have HAw : Hid (awaitB unm rn = false) := haw
              clear haw
              clear e2
              go_wp2_with fail
              go_loopw [51, 462] (fun fl ix wr => ∃ j : Nat, j ≤ ps.length ∧ ix = .int .i64 j ∧ fl = .int .u64 (floorM (ps.take j) rn) ∧ Below wo.heap.size wo wr) (fun _ ix _ => ps.length - (intOf ix).toNat)
              case atStart => exact ⟨0, Nat.zero_le _, rfl, rfl, (Below.refl wo.heap.size wo)⟩
              case round =>
                obtain ⟨j, hj, rfl, rfl, hb5⟩ := hrel
                have HB5 := show Hid _ from hb5
                clear hb5
                by_cases hjl : j < ps.length
                · obtain ⟨p, hp⟩ : ∃ p, ps[j]? = some p := ⟨_, List.getElem?_eq_getElem hjl⟩
                  obtain ⟨b4, o4, rfl, hb4, hc4⟩ := HPs.out (by simp; omega)
                  have HPc := show Hid _ from psCells hb4 hc4
                  obtain ⟨d0, d1, d2⟩ := HPc.out j p hp wr (HBX.out.trans (HB5.out.mono hXr))
                  have HFl : Hid (floorM (ps.take (j + 1)) rn = if ((p.id != rn) && (p.st != 2)) = true then 0 else floorM (ps.take j) rn) := by
                    show _ = _
                    unfold floorM
                    rw [List.take_add_one, hp, List.any_append]
                    cases hx : ((p.id != rn) && (p.st != 2)) <;> simp [hx]
                  have HJ : Hid (j < ps.length) := hjl
                  have i2 : (j : Int) < (ps.length : Int) := by omega
                  clear hp hjl
                  by_cases c1 : p.id = rn
                  · have c1b : (p.id != rn) = false := by simpa using c1
                    have HF2 : Hid (floorM (ps.take (j + 1)) rn = floorM (ps.take j) rn) := by show _ = _; rw [HFl.out, c1b]; rfl
                    clear c1
                    go_wp2_with fail
                    go_roundw
                    case rel => exact ⟨j + 1, by have := HJ.out; omega, by go_num, by rw [HF2.out], nb HB5.out (Nat.le_refl _) _⟩
                    case measure => have := HJ.out; simp [intOf]; omega
                  · have c1b : (p.id != rn) = true := by simpa using c1
                    by_cases c2 : p.st = 2
                    · have c2b : (p.st != 2) = false := by simpa using c2
                      have HF2 : Hid (floorM (ps.take (j + 1)) rn = floorM (ps.take j) rn) := by show _ = _; rw [HFl.out, c1b, c2b]; rfl
                      clear c1 c2
                      go_wp2_with fail
                      go_roundw
                      case rel => exact ⟨j + 1, by have := HJ.out; omega, by go_num, by rw [HF2.out], nb HB5.out (Nat.le_refl _) _⟩
                      case measure => have := HJ.out; simp [intOf]; omega
                    · have c2b : (p.st != 2) = true := by simpa using c2
                      have HF2 : Hid (floorM (ps.take (j + 1)) rn = 0) := by show _ = _; rw [HFl.out, c1b, c2b]; rfl
                      clear c1 c2
                      go_wp2_with fail
                      go_roundw
                      case rel => exact ⟨j + 1, by have := HJ.out; omega, by go_num, by rw [HF2.out], nb HB5.out (Nat.le_refl _) _⟩
                      case measure => have := HJ.out; simp [intOf]; omega
                · have hjn : j = ps.length := by omega
                  subst hjn
                  clear hjl
                  have hfl : floorM (ps.take ps.length) rn = floorM ps rn := by rw [List.take_length]
                  rw [hfl]
                  clear hfl
                  obtain ⟨w5, hw5⟩ : ∃ w5, w5 = wr := ⟨_, rfl⟩
                  subst hw5
                  have e2 := (HCell.out k _ HQ.out.1 w5 HB5.out 2 _ rfl)
                  simp only [E70] at e2
                  have hw5 : X.heap.size ≤ w5.heap.size := Nat.le_trans hXr HB5.out.size
                  have HQi : Hid (0 < qit.length → ∃ b, qa = some ⟨b, 0, none⟩ ∧ b < w5.heap.size ∧ ∀ (i : Nat) (x : KM), qit[i]? = some x → ∀ (j : Nat) (u : Value), (EK.cs x)[j]? = some u → w5.cell? ⟨b, i * 3 + j, none⟩ = some u) := fun h0 => by
                    obtain ⟨_, _, e, hop⟩ := (HQs.out.1.later HB5.out).open
                    cases e
                    obtain ⟨b, h1, _, h2, _, _, h3⟩ := hop h0
                    exact ⟨b, h1, h2, h3⟩
                  go_wp2_with fail
                  clear e2
                  go_loopw [54, 482] (fun vl ix wr => ∃ j : Nat, j ≤ qit.length ∧ ix = .int .i64 j ∧ Sl EK 63 wr w5.heap.size vl ((qit.take j).filter (fun x => decide (floorM ps rn < x.seq))) ∧ Below w5.heap.size w5 wr) (fun _ ix _ => qit.length - (intOf ix).toNat)
                  case atStart => exact ⟨0, Nat.zero_le _, rfl, Sl.nil _ _, Below.refl _ _⟩
                  case round =>
                    obtain ⟨j, hj, rfl, hsl, hb6⟩ := hrel
                    have HSl : Hid (Sl EK 63 wr w5.heap.size u54 ((qit.take j).filter (fun x => decide (floorM ps rn < x.seq)))) := hsl
                    have HB6 : Hid (Below w5.heap.size w5 wr) := hb6
                    have h56 : w5.heap.size ≤ wr.heap.size := hb6.size
                    clear hsl hb6
                    by_cases hjl : j < qit.length
                    · obtain ⟨b, rfl, hbl, hcb⟩ := HQi.out (by omega)
                      obtain ⟨⟨ys, ya, yl, yc, yf⟩, hy⟩ : ∃ y, qit[j]? = some y := ⟨_, List.getElem?_eq_getElem hjl⟩
                      have d0 := (HB6.out.cell (p := ⟨b, j * 3 + 0, none⟩) hbl).trans (hcb j _ hy 0 _ rfl)
                      have d1 := (HB6.out.cell (p := ⟨b, j * 3 + 1, none⟩) hbl).trans (hcb j _ hy 1 _ rfl)
                      have d2 := (HB6.out.cell (p := ⟨b, j * 3 + 2, none⟩) hbl).trans (hcb j _ hy 2 _ rfl)
                      simp only [Nat.add_zero] at d0
                      have HFt : Hid ((qit.take (j + 1)).filter (fun x => decide (floorM ps rn < x.seq)) = (qit.take j).filter (fun x => decide (floorM ps rn < x.seq)) ++ (if floorM ps rn < ys then [⟨ys, ya, yl, yc, yf⟩] else [])) := by
                        show _ = _
                        rw [List.take_add_one, hy, List.filter_append]
                        congr 1
                        simp only [Option.toList_some, List.filter_cons, List.filter_nil]
                        by_cases hx : floorM ps rn < ys <;> simp [hx]
                      have HJ : Hid (j < qit.length) := hjl
                      have i2 : (j : Int) < (qit.length : Int) := by omega
                      have hfl := List.length_filter_le (fun x => decide (floorM ps rn < x.seq)) (qit.take j)
                      have hfl2 : ((qit.take j).filter (fun x => decide (floorM ps rn < x.seq))).length ≤ 5000 := Nat.le_trans hfl (by simp; omega)
                      clear hcb hy hjl hfl
                      by_cases hgt : floorM ps rn < ys
                      · have hgb : decide (ys > floorM ps rn) = true := decide_eq_true hgt
                        have HF2 : Hid ((qit.take (j + 1)).filter (fun x => decide (floorM ps rn < x.seq)) = (qit.take j).filter (fun x => decide (floorM ps rn < x.seq)) ++ [⟨ys, ya, yl, yc, yf⟩]) := by show _ = _; rw [HFt.out, if_pos hgt]
                        obtain ⟨wk, hwk⟩ : ∃ wk, wk = wr.alloc (.cells #[.int .u64 ys, .slice ya yl yc, .int .u64 yf] 63) := ⟨_, rfl⟩
                        have hbk : Below wr.heap.size wr wk := by rw [hwk]; exact nb (Below.refl _ _) (Nat.le_refl _) _
                        have hszk : wk.heap.size = wr.heap.size + 1 := by rw [hwk]; simp
                        obtain ⟨v', w', hrun, hS, hg', _⟩ := (HSl.out.later hbk).push (T := 68) Yba.underlying68 info63 rfl (by decide) (by omega) (by omega) (by decide) ⟨ys, ya, yl, yc, yf⟩ #[.int .u64 ys, .slice ya yl yc, .int .u64 yf] rfl
                        have HS' : Hid (Sl EK 63 w' w5.heap.size v' ((qit.take j).filter (fun x => decide (floorM ps rn < x.seq)) ++ [⟨ys, ya, yl, yc, yf⟩])) := hS
                        have HB' : Hid (Below w5.heap.size w5 w') := (HB6.out.trans (hbk.mono h56)).trans (grown_below hg' (fun i hi => (HSl.out.lt hi).1) (by omega))
                        rw [hszk, hwk] at hrun
                        clear hS hg' hbk hwk hszk hgt
                        go_wp2_with (at_builtin; refine wpList_append_run 68 hrun rfl _ _ rfl rfl rfl rfl ?_)
                        go_roundw
                        case rel => exact ⟨j + 1, by have := HJ.out; omega, by go_num, by rw [HF2.out]; exact HS'.out, HB'.out⟩
                        case measure => have := HJ.out; simp [intOf]; omega
                      · have hgb : decide (ys > floorM ps rn) = false := decide_eq_false hgt
                        have HF2 : Hid ((qit.take (j + 1)).filter (fun x => decide (floorM ps rn < x.seq)) = (qit.take j).filter (fun x => decide (floorM ps rn < x.seq))) := by show _ = _; rw [HFt.out, if_neg hgt]; simp
                        clear hgt
                        go_wp2_with fail
                        go_roundw
                        case rel => exact ⟨j + 1, by have := HJ.out; omega, by go_num, by rw [HF2.out]; exact HSl.out.later (nb (Below.refl _ _) (Nat.le_refl _) _), nb HB6.out (Nat.le_refl _) _⟩
                        case measure => have := HJ.out; simp [intOf]; omega
                    · have hjn : j = qit.length := by omega
                      subst hjn
                      clear hjl
                      have hbr6 := HB5.out.trans (HB6.out.mono HB5.out.size)
                      have e2 := (HCell.out k _ HQ.out.1 wr hbr6 2 _ rfl)
                      simp only [E70] at e2
                      have f2 := HFz.out wr hbr6 (k * 3 + 2)
                      have hsl := HSl.out
                      rw [List.take_length] at hsl
                      obtain ⟨la, lc, hul54, _⟩ := hsl.open
                      subst hul54
                      have HSl2 : Hid (Sl EK 63 wr X.heap.size (.slice la (qit.filter (fun x => decide (floorM ps rn < x.seq))).length lc) (leftM ps unm rn qit)) := by
                        show Sl EK 63 wr X.heap.size _ (leftM ps unm rn qit)
                        unfold leftM
                        rw [if_neg (by rw [HAw.out]; decide)]
                        exact hsl.mono hw5
                      have HRi : Hid (Rising (leftM ps unm rn qit)) := by
                        show Rising (leftM ps unm rn qit)
                        unfold leftM
                        split
                        · exact HQs.out.2
                        · exact List.Pairwise.sublist List.filter_sublist HQs.out.2
                      have HFin : Hid (∃ S', Ser (wr.setCell ⟨g, k * 3 + 2, none⟩ (.slice la (qit.filter (fun x => decide (floorM ps rn < x.seq))).length lc)) X.heap.size (.slice (some ⟨g, 0, none⟩) n0 rc) S' ∧ S'.map keyS = TS ps unm sf T (k + 1) ∧ Below X.heap.size X (wr.setCell ⟨g, k * 3 + 2, none⟩ (.slice la (qit.filter (fun x => decide (floorM ps rn < x.seq))).length lc)) ∧ Got (wr.setCell ⟨g, k * 3 + 2, none⟩ (.slice la (qit.filter (fun x => decide (floorM ps rn < x.seq))).length lc)) X.heap.size (.slice wa G.length wc) G) := by
                        have hser6 := serLater HSer.out hbr6
                        refine ⟨_, hser6.turn HQ.out.1 HSl2.out HRi.out, by rw [HSet.out]; exact HMd.out (leftM ps unm rn) _ _ _, (HBX.out.trans (hbr6.mono hXr)).setCell hXg _, ?_⟩
                        refine (HGw.out.later hbr6).tonly (t := 70) (by decide) (by decide) ⟨by simp, fun b hb hne => Deep.blk_setCell_other _ _ _ _ (fun e => ?_)⟩
                        obtain ⟨cur, hcur⟩ := hser6.1.typed (g := g) rfl
                        exact hne cur (by rw [e]; exact hcur)
                      clear hsl
                      go_wp2_with fail
                      go_roundw
                      case rel =>
                        obtain ⟨S', a1, a2, a3, a4⟩ := HFin.out
                        exact ⟨k + 1, by have := HA.out.2; omega, by go_num, S', a1, a2, a3, a4⟩
                      case measure => have := HA.out.2; simp [intOf]; omega
        · have h2b : (rn == sf) = false := by simpa using h2
          have HRn : Hid (¬ rn = sf) := h2
          clear h2
          have hskip : tIdx ps sf (TS ps unm sf T k) k rn = none → TS ps unm sf T (k + 1) = TS ps unm sf T k := fun hti => by
            show settleT ps unm sf (TS ps unm sf T k) k = _
            unfold settleT
            rw [HTk.out]
            simp only
            rw [if_neg (by simpa using HRo.out), hti]
          have HSkip := show Hid _ from hskip
          clear hskip
          go_wp2_with fail
          go_loopw [49, 429] (fun tv ix wr => ∃ j : Nat, j ≤ ps.length ∧ tv = .int .i64 (-1) ∧ ix = .int .i64 j ∧ Below wo.heap.size wo wr ∧ ∀ (i : Nat) p, i < j → ps[i]? = some p → ¬ p.id = rn) (fun _ ix _ => ps.length - (intOf ix).toNat)
          case atStart => exact ⟨0, Nat.zero_le _, rfl, rfl, Below.refl _ _, fun i p hi => by omega⟩
          case round =>
            obtain ⟨j, hj, rfl, rfl, hb4, hno4⟩ := hrel
            have HB4 : Hid (Below wo.heap.size wo wr) := hb4
            have HN4 : Hid (∀ (i : Nat) p, i < j → ps[i]? = some p → ¬ p.id = rn) := hno4
            clear hb4 hno4
            by_cases hjl : j < ps.length
            · obtain ⟨p, hp⟩ : ∃ p, ps[j]? = some p := ⟨_, List.getElem?_eq_getElem hjl⟩
              obtain ⟨b4, o4, rfl, hbl4, hc4⟩ := HPs.out (by simp; omega)
              have HPc := show Hid _ from psCells hbl4 hc4
              obtain ⟨d0, _, _⟩ := HPc.out j p hp wr (HBX.out.trans (HB4.out.mono hXr))
              have HJ4 : Hid (ps[j]? = some p ∧ j < ps.length) := ⟨hp, hjl⟩
              have i2 : (j : Int) < (ps.length : Int) := by omega
              clear hc4 hp
              by_cases c1 : p.id = rn
              · have c1b : (p.id == rn) = true := by simpa using c1
                have HFi : Hid (ps.findIdx? (fun p => p.id == rn) = some j) := by
                  show _ = _
                  rw [List.findIdx?_eq_some_iff_getElem]
                  refine ⟨hjl, ?_, fun i hi => ?_⟩
                  · have e := HJ4.out.1
                    rw [List.getElem?_eq_getElem hjl] at e
                    injection e with e
                    rw [e]; exact c1b
                  · have := HN4.out i _ hi (List.getElem?_eq_getElem (by omega))
                    simpa using this
                have HTi : Hid (tIdx ps sf (TS ps unm sf T k) k rn = S.findIdx? (atS (j : Int) rn)) := by
                  show _ = _
                  unfold tIdx
                  rw [if_neg HRn.out, HFi.out]
                  simp only
                  rw [← HKey.out, findT]
                have HFd : Hid (Calls Yba.prog 12 #[.slice (some ⟨g, 0, none⟩) n0 rc, .int .i64 (j : Int), .int .u64 rn] wr fun e w' => e = .returned (idxV (S.findIdx? (atS (j : Int) rn))) ∧ w' = wr) := by
                  have := find_any (cap := rc) S (j : Int) rn (HSi.out.later HB4.out) (by omega)
                  rw [HSl2.out] at this
                  exact this
                clear c1 hjl
                go_wp2_with fail
                refine HFd.out.mono ?_
                rintro e w8 ⟨rfl, hw8⟩
                obtain rfl := hw8.symm
                clear d0
                cases hfi : S.findIdx? (atS (j : Int) rn) with
                | none =>
                  have HSk : Hid (TS ps unm sf T (k + 1) = TS ps unm sf T k) := HSkip.out (by rw [HTi.out, hfi])
                  simp only [idxV]
                  clear hfi
                  go_wp2_with fail
                  go_roundw
                  case rel => exact ⟨k + 1, by have := HA.out.2; omega, by go_num, S, serLater HSer.out HB4.out, by rw [HSk.out]; exact HKey.out, HBX.out.trans ((HB4.out).mono hXr), HGw.out.later HB4.out⟩
                  case measure => have := HA.out.2; simp [intOf]; omega
                | some ti =>
                  have hil8 : ti < S.length := by rw [List.findIdx?_eq_some_iff_getElem] at hfi; exact hfi.1
                  have HTj : Hid (tIdx ps sf (TS ps unm sf T k) k rn = some ti) := by show _ = _; rw [HTi.out, hfi]
                  simp only [idxV]
                  clear hfi
                  -- the entry that is settled: number ti
                  obtain ⟨⟨qo, qn, qa, ql, qc, qit⟩, hq⟩ : ∃ q, S[ti]? = some q := ⟨_, List.getElem?_eq_getElem (by omega)⟩
                  have hqs := HSer.out.2 _ (List.mem_of_getElem? hq)
                  simp only at hqs
                  have hql : ql = qit.length := by obtain ⟨_, _, e, _⟩ := hqs.1.open; injection e with _ e _
                  subst hql
                  have e2 := (HCell.out ti _ hq wr HB4.out 2 _ rfl)
                  simp only [E70] at e2
                  have HQ : Hid (S[ti]? = some ⟨qo, qn, qa, qit.length, qc, qit⟩ ∧ ti < S.length) := ⟨hq, by omega⟩
                  have HQs : Hid (Sl EK 63 wo X.heap.size (.slice qa qit.length qc) qit ∧ Rising qit) := hqs
                  have hqil : qit.length ≤ 5000 := HIlS.out _ (List.mem_of_getElem? hq)
                  have HSet : Hid (TS ps unm sf T (k + 1) = (TS ps unm sf T k).modify ti (fun x => (x.1, x.2.1, leftM ps unm rn x.2.2))) := by
                    show settleT ps unm sf (TS ps unm sf T k) k = _
                    unfold settleT
                    rw [HTk.out]
                    simp only
                    rw [if_neg (by simpa using HRo.out), HTj.out]
                  have hneg : decide ((ti : Int) < 0) = false := decide_eq_false (by omega)
                  have ilt : (ti : Int) < (n0 : Int) := by omega
                  have HMod : Hid (∀ f : List KM → List KM, f qit = qit → (TS ps unm sf T k).modify ti (fun x => (x.1, x.2.1, f x.2.2)) = TS ps unm sf T k) := fun f hf => by
                    rw [← HKey.out]
                    apply List.ext_getElem?
                    intro i
                    rw [List.getElem?_modify, List.getElem?_map]
                    by_cases e : ti = i
                    · subst e
                      rw [HQ.out.1]
                      simp [keyS, hf]
                    · simp [e]
                  have HMd : Hid (∀ (f : List KM → List KM) xa xl xc, (S.set ti ⟨qo, qn, xa, xl, xc, f qit⟩).map keyS = (TS ps unm sf T k).modify ti (fun x => (x.1, x.2.1, f x.2.2))) := fun f xa xl xc => by
                    rw [← HKey.out]
                    apply List.ext_getElem?
                    intro i
                    rw [List.getElem?_modify, List.getElem?_map, List.getElem?_map, List.getElem?_set]
                    by_cases e : ti = i
                    · subst e
                      have hq' : S[ti] = ⟨qo, qn, qa, qit.length, qc, qit⟩ := by have := HQ.out.1; rw [List.getElem?_eq_getElem HQ.out.2] at this; injection this
                      simp [HQ.out.2, keyS, hq']
                    · simp [e]
                  clear hq hqs
                  by_cases hempty : qit = []
                  · have hlb : ((qit.length : Int) == 0) = true := by rw [hempty]; simp
                    have HSk : Hid (TS ps unm sf T (k + 1) = TS ps unm sf T k) := by
                      show _ = _
                      rw [HSet.out]
                      exact HMod.out _ (by rw [hempty]; unfold leftM; split <;> rfl)
                    clear hempty
                    go_wp2_with fail
                    go_roundw
                    case rel => exact ⟨k + 1, by have := HA.out.2; omega, by go_num, S, serLater HSer.out HB4.out, by rw [HSk.out]; exact HKey.out, HBX.out.trans ((HB4.out).mono hXr), HGw.out.later HB4.out⟩
                    case measure => have := HA.out.2; simp [intOf]; omega
                  · have hlb : ((qit.length : Int) == 0) = false := by
                      cases qit with
                      | nil => exact absurd rfl hempty
                      | cons _ _ => simp; omega
                    clear hempty
                    go_wp2_with fail
                    refine (mAwait_any unm rn (HUn.out.later ((HBX.out.trans ((HB4.out).mono hXr)).mono hWX)) (by omega)).mono ?_
                    rintro e w9 ⟨rfl, hw9⟩
                    obtain rfl := hw9.symm
                    cases haw : awaitB unm rn with
                    | true =>
                      have HSk : Hid (TS ps unm sf T (k + 1) = TS ps unm sf T k) := by
                        show _ = _
                        rw [HSet.out]
                        exact HMod.out _ (by unfold leftM; rw [if_pos haw])
                      clear haw
                      go_wp2_with fail
                      go_roundw
                      case rel => exact ⟨k + 1, by have := HA.out.2; omega, by go_num, S, serLater HSer.out HB4.out, by rw [HSk.out]; exact HKey.out, HBX.out.trans ((HB4.out).mono hXr), HGw.out.later HB4.out⟩
                      case measure => have := HA.out.2; simp [intOf]; omega
                    | false =>
                      have HAw : Hid (awaitB unm rn = false) := haw
                      clear haw
                      clear e2
                      go_wp2_with fail
                      go_loopw [51, 462] (fun fl ix wr => ∃ j : Nat, j ≤ ps.length ∧ ix = .int .i64 j ∧ fl = .int .u64 (floorM (ps.take j) rn) ∧ Below wo.heap.size wo wr) (fun _ ix _ => ps.length - (intOf ix).toNat)
                      case atStart => exact ⟨0, Nat.zero_le _, rfl, rfl, HB4.out⟩
                      case round =>
                        obtain ⟨j, hj, rfl, rfl, hb5⟩ := hrel
                        have HB5 := show Hid _ from hb5
                        clear hb5
                        by_cases hjl : j < ps.length
                        · obtain ⟨p, hp⟩ : ∃ p, ps[j]? = some p := ⟨_, List.getElem?_eq_getElem hjl⟩
                          obtain ⟨d0, d1, d2⟩ := HPc.out j p hp wr (HBX.out.trans (HB5.out.mono hXr))
                          have HFl : Hid (floorM (ps.take (j + 1)) rn = if ((p.id != rn) && (p.st != 2)) = true then 0 else floorM (ps.take j) rn) := by
                            show _ = _
                            unfold floorM
                            rw [List.take_add_one, hp, List.any_append]
                            cases hx : ((p.id != rn) && (p.st != 2)) <;> simp [hx]
                          have HJ : Hid (j < ps.length) := hjl
                          have i2 : (j : Int) < (ps.length : Int) := by omega
                          clear hp hjl
                          by_cases c1 : p.id = rn
                          · have c1b : (p.id != rn) = false := by simpa using c1
                            have HF2 : Hid (floorM (ps.take (j + 1)) rn = floorM (ps.take j) rn) := by show _ = _; rw [HFl.out, c1b]; rfl
                            clear c1
                            go_wp2_with fail
                            go_roundw
                            case rel => exact ⟨j + 1, by have := HJ.out; omega, by go_num, by rw [HF2.out], nb HB5.out (Nat.le_refl _) _⟩
                            case measure => have := HJ.out; simp [intOf]; omega
                          · have c1b : (p.id != rn) = true := by simpa using c1
                            by_cases c2 : p.st = 2
                            · have c2b : (p.st != 2) = false := by simpa using c2
                              have HF2 : Hid (floorM (ps.take (j + 1)) rn = floorM (ps.take j) rn) := by show _ = _; rw [HFl.out, c1b, c2b]; rfl
                              clear c1 c2
                              go_wp2_with fail
                              go_roundw
                              case rel => exact ⟨j + 1, by have := HJ.out; omega, by go_num, by rw [HF2.out], nb HB5.out (Nat.le_refl _) _⟩
                              case measure => have := HJ.out; simp [intOf]; omega
                            · have c2b : (p.st != 2) = true := by simpa using c2
                              have HF2 : Hid (floorM (ps.take (j + 1)) rn = 0) := by show _ = _; rw [HFl.out, c1b, c2b]; rfl
                              clear c1 c2
                              go_wp2_with fail
                              go_roundw
                              case rel => exact ⟨j + 1, by have := HJ.out; omega, by go_num, by rw [HF2.out], nb HB5.out (Nat.le_refl _) _⟩
                              case measure => have := HJ.out; simp [intOf]; omega
                        · have hjn : j = ps.length := by omega
                          subst hjn
                          clear hjl
                          have hfl : floorM (ps.take ps.length) rn = floorM ps rn := by rw [List.take_length]
                          rw [hfl]
                          clear hfl
                          obtain ⟨w5, hw5⟩ : ∃ w5, w5 = wr := ⟨_, rfl⟩
                          subst hw5
                          have e2 := (HCell.out ti _ HQ.out.1 w5 HB5.out 2 _ rfl)
                          simp only [E70] at e2
                          have hw5 : X.heap.size ≤ w5.heap.size := Nat.le_trans hXr HB5.out.size
                          have HQi : Hid (0 < qit.length → ∃ b, qa = some ⟨b, 0, none⟩ ∧ b < w5.heap.size ∧ ∀ (i : Nat) (x : KM), qit[i]? = some x → ∀ (j : Nat) (u : Value), (EK.cs x)[j]? = some u → w5.cell? ⟨b, i * 3 + j, none⟩ = some u) := fun h0 => by
                            obtain ⟨_, _, e, hop⟩ := (HQs.out.1.later HB5.out).open
                            cases e
                            obtain ⟨b, h1, _, h2, _, _, h3⟩ := hop h0
                            exact ⟨b, h1, h2, h3⟩
                          go_wp2_with fail
                          clear e2
                          go_loopw [54, 482] (fun vl ix wr => ∃ j : Nat, j ≤ qit.length ∧ ix = .int .i64 j ∧ Sl EK 63 wr w5.heap.size vl ((qit.take j).filter (fun x => decide (floorM ps rn < x.seq))) ∧ Below w5.heap.size w5 wr) (fun _ ix _ => qit.length - (intOf ix).toNat)
                          case atStart => exact ⟨0, Nat.zero_le _, rfl, Sl.nil _ _, Below.refl _ _⟩
                          case round =>
                            obtain ⟨j, hj, rfl, hsl, hb6⟩ := hrel
                            have HSl : Hid (Sl EK 63 wr w5.heap.size u54 ((qit.take j).filter (fun x => decide (floorM ps rn < x.seq)))) := hsl
                            have HB6 : Hid (Below w5.heap.size w5 wr) := hb6
                            have h56 : w5.heap.size ≤ wr.heap.size := hb6.size
                            clear hsl hb6
                            by_cases hjl : j < qit.length
                            · obtain ⟨b, rfl, hbl, hcb⟩ := HQi.out (by omega)
                              obtain ⟨⟨ys, ya, yl, yc, yf⟩, hy⟩ : ∃ y, qit[j]? = some y := ⟨_, List.getElem?_eq_getElem hjl⟩
                              have d0 := (HB6.out.cell (p := ⟨b, j * 3 + 0, none⟩) hbl).trans (hcb j _ hy 0 _ rfl)
                              have d1 := (HB6.out.cell (p := ⟨b, j * 3 + 1, none⟩) hbl).trans (hcb j _ hy 1 _ rfl)
                              have d2 := (HB6.out.cell (p := ⟨b, j * 3 + 2, none⟩) hbl).trans (hcb j _ hy 2 _ rfl)
                              simp only [Nat.add_zero] at d0
                              have HFt : Hid ((qit.take (j + 1)).filter (fun x => decide (floorM ps rn < x.seq)) = (qit.take j).filter (fun x => decide (floorM ps rn < x.seq)) ++ (if floorM ps rn < ys then [⟨ys, ya, yl, yc, yf⟩] else [])) := by
                                show _ = _
                                rw [List.take_add_one, hy, List.filter_append]
                                congr 1
                                simp only [Option.toList_some, List.filter_cons, List.filter_nil]
                                by_cases hx : floorM ps rn < ys <;> simp [hx]
                              have HJ : Hid (j < qit.length) := hjl
                              have i2 : (j : Int) < (qit.length : Int) := by omega
                              have hfl := List.length_filter_le (fun x => decide (floorM ps rn < x.seq)) (qit.take j)
                              have hfl2 : ((qit.take j).filter (fun x => decide (floorM ps rn < x.seq))).length ≤ 5000 := Nat.le_trans hfl (by simp; omega)
                              clear hcb hy hjl hfl
                              by_cases hgt : floorM ps rn < ys
                              · have hgb : decide (ys > floorM ps rn) = true := decide_eq_true hgt
                                have HF2 : Hid ((qit.take (j + 1)).filter (fun x => decide (floorM ps rn < x.seq)) = (qit.take j).filter (fun x => decide (floorM ps rn < x.seq)) ++ [⟨ys, ya, yl, yc, yf⟩]) := by show _ = _; rw [HFt.out, if_pos hgt]
                                obtain ⟨wk, hwk⟩ : ∃ wk, wk = wr.alloc (.cells #[.int .u64 ys, .slice ya yl yc, .int .u64 yf] 63) := ⟨_, rfl⟩
                                have hbk : Below wr.heap.size wr wk := by rw [hwk]; exact nb (Below.refl _ _) (Nat.le_refl _) _
                                have hszk : wk.heap.size = wr.heap.size + 1 := by rw [hwk]; simp
                                obtain ⟨v', w', hrun, hS, hg', _⟩ := (HSl.out.later hbk).push (T := 68) Yba.underlying68 info63 rfl (by decide) (by omega) (by omega) (by decide) ⟨ys, ya, yl, yc, yf⟩ #[.int .u64 ys, .slice ya yl yc, .int .u64 yf] rfl
                                have HS' : Hid (Sl EK 63 w' w5.heap.size v' ((qit.take j).filter (fun x => decide (floorM ps rn < x.seq)) ++ [⟨ys, ya, yl, yc, yf⟩])) := hS
                                have HB' : Hid (Below w5.heap.size w5 w') := (HB6.out.trans (hbk.mono h56)).trans (grown_below hg' (fun i hi => (HSl.out.lt hi).1) (by omega))
                                rw [hszk, hwk] at hrun
                                clear hS hg' hbk hwk hszk hgt
                                go_wp2_with (at_builtin; refine wpList_append_run 68 hrun rfl _ _ rfl rfl rfl rfl ?_)
                                go_roundw
                                case rel => exact ⟨j + 1, by have := HJ.out; omega, by go_num, by rw [HF2.out]; exact HS'.out, HB'.out⟩
                                case measure => have := HJ.out; simp [intOf]; omega
                              · have hgb : decide (ys > floorM ps rn) = false := decide_eq_false hgt
                                have HF2 : Hid ((qit.take (j + 1)).filter (fun x => decide (floorM ps rn < x.seq)) = (qit.take j).filter (fun x => decide (floorM ps rn < x.seq))) := by show _ = _; rw [HFt.out, if_neg hgt]; simp
                                clear hgt
                                go_wp2_with fail
                                go_roundw
                                case rel => exact ⟨j + 1, by have := HJ.out; omega, by go_num, by rw [HF2.out]; exact HSl.out.later (nb (Below.refl _ _) (Nat.le_refl _) _), nb HB6.out (Nat.le_refl _) _⟩
                                case measure => have := HJ.out; simp [intOf]; omega
                            · have hjn : j = qit.length := by omega
                              subst hjn
                              clear hjl
                              have hbr6 := HB5.out.trans (HB6.out.mono HB5.out.size)
                              have e2 := (HCell.out ti _ HQ.out.1 wr hbr6 2 _ rfl)
                              simp only [E70] at e2
                              have f2 := HFz.out wr hbr6 (ti * 3 + 2)
                              have hsl := HSl.out
                              rw [List.take_length] at hsl
                              obtain ⟨la, lc, hul54, _⟩ := hsl.open
                              subst hul54
                              have HSl2 : Hid (Sl EK 63 wr X.heap.size (.slice la (qit.filter (fun x => decide (floorM ps rn < x.seq))).length lc) (leftM ps unm rn qit)) := by
                                show Sl EK 63 wr X.heap.size _ (leftM ps unm rn qit)
                                unfold leftM
                                rw [if_neg (by rw [HAw.out]; decide)]
                                exact hsl.mono hw5
                              have HRi : Hid (Rising (leftM ps unm rn qit)) := by
                                show Rising (leftM ps unm rn qit)
                                unfold leftM
                                split
                                · exact HQs.out.2
                                · exact List.Pairwise.sublist List.filter_sublist HQs.out.2
                              have HFin : Hid (∃ S', Ser (wr.setCell ⟨g, ti * 3 + 2, none⟩ (.slice la (qit.filter (fun x => decide (floorM ps rn < x.seq))).length lc)) X.heap.size (.slice (some ⟨g, 0, none⟩) n0 rc) S' ∧ S'.map keyS = TS ps unm sf T (k + 1) ∧ Below X.heap.size X (wr.setCell ⟨g, ti * 3 + 2, none⟩ (.slice la (qit.filter (fun x => decide (floorM ps rn < x.seq))).length lc)) ∧ Got (wr.setCell ⟨g, ti * 3 + 2, none⟩ (.slice la (qit.filter (fun x => decide (floorM ps rn < x.seq))).length lc)) X.heap.size (.slice wa G.length wc) G) := by
                                have hser6 := serLater HSer.out hbr6
                                refine ⟨_, hser6.turn HQ.out.1 HSl2.out HRi.out, by rw [HSet.out]; exact HMd.out (leftM ps unm rn) _ _ _, (HBX.out.trans (hbr6.mono hXr)).setCell hXg _, ?_⟩
                                refine (HGw.out.later hbr6).tonly (t := 70) (by decide) (by decide) ⟨by simp, fun b hb hne => Deep.blk_setCell_other _ _ _ _ (fun e => ?_)⟩
                                obtain ⟨cur, hcur⟩ := hser6.1.typed (g := g) rfl
                                exact hne cur (by rw [e]; exact hcur)
                              clear hsl
                              go_wp2_with fail
                              go_roundw
                              case rel =>
                                obtain ⟨S', a1, a2, a3, a4⟩ := HFin.out
                                exact ⟨k + 1, by have := HA.out.2; omega, by go_num, S', a1, a2, a3, a4⟩
                              case measure => have := HA.out.2; simp [intOf]; omega
              · have c1b : (p.id == rn) = false := by simpa using c1
                have HC1 : Hid (¬ p.id = rn) := c1
                clear c1 hjl
                go_wp2_with fail
                go_roundw
                case rel =>
                  refine ⟨j + 1, by have := HJ4.out.2; omega, rfl, by go_num, HB4.out, fun i q hi hq => ?_⟩
                  rcases Nat.lt_or_ge i j with h | h
                  · exact HN4.out i q h hq
                  · have : i = j := by omega
                    subst this
                    rw [HJ4.out.1] at hq
                    injection hq with hq
                    rw [← hq]; exact HC1.out
                case measure => have := HJ4.out.2; simp [intOf]; omega
            · have hjn : j = ps.length := by omega
              subst hjn
              have HSk : Hid (TS ps unm sf T (k + 1) = TS ps unm sf T k) := HSkip.out (by
                unfold tIdx
                rw [if_neg HRn.out]
                have : ps.findIdx? (fun p => p.id == rn) = none := by
                  rw [List.findIdx?_eq_none_iff]
                  intro x hx
                  obtain ⟨i, hi, rfl⟩ := List.getElem_of_mem hx
                  have := HN4.out i _ hi (List.getElem?_eq_getElem hi)
                  simpa using this
                rw [this])
              clear hjl
              go_wp2_with fail
              go_roundw
              case rel => exact ⟨k + 1, by have := HA.out.2; omega, by go_num, S, serLater HSer.out HB4.out, by rw [HSk.out]; exact HKey.out, HBX.out.trans ((HB4.out).mono hXr), HGw.out.later HB4.out⟩
              case measure => have := HA.out.2; simp [intOf]; omega
      · have h1b : (ro != -1) = true := by simpa using h1
        have HSk : Hid (TS ps unm sf T (k + 1) = TS ps unm sf T k) := by
          show settleT ps unm sf (TS ps unm sf T k) k = _
          unfold settleT
          rw [HTk.out]
          simp only
          rw [if_pos h1]
        clear h1
        go_wp2_with fail
        go_roundw
        case rel => exact ⟨k + 1, by have := HA.out.2; omega, by go_num, S, serLater HSer.out (Below.refl wo.heap.size wo), by rw [HSk.out]; exact HKey.out, HBX.out.trans (((Below.refl wo.heap.size wo)).mono hXr), HGw.out.later (Below.refl wo.heap.size wo)⟩
        case measure => have := HA.out.2; simp [intOf]; omega
    · have hkn : k = T.length := by omega
      subst hkn
      clear hlt
      go_wp2_with fail
      refine HK.out _ _ ?_
      have hbX := HBX.out
      have hIl2 : ∀ r ∈ S, r.items.length ≤ 5000 := fun r hr => TS_all (P := fun L => L.length ≤ 5000) (fun name L h => Nat.le_trans (leftM_len ps unm name L) h) HIl.out T.length (keyS r) (by rw [← HKey.out]; exact List.mem_map.2 ⟨r, hr, rfl⟩)
      have hBy2 : ∀ r ∈ S, ∀ x ∈ r.items, Byt X D ⟨x.ao, x.len, x.cap⟩ := fun r hr => TS_all (P := fun L => ∀ x ∈ L, Byt X D ⟨x.ao, x.len, x.cap⟩) (fun name L h x hx => h x (by unfold leftM at hx; split at hx; exact hx; exact (List.mem_filter.1 hx).1)) HByt.out T.length (keyS r) (by rw [← HKey.out]; exact List.mem_map.2 ⟨r, hr, rfl⟩)
      have hRel2 := HRel.out.settled (unm := unm) (sf := sf) HKb.out HIi.out (fun p hp => (HPf.out p hp).2) T.length (Nat.le_refl _)
      rw [← HKey.out] at hRel2
      have hser := HSer.out
      rw [← HSl2.out] at hser ⊢
      exact t19 W wo B Rb sf vids ids pm um nm mk ps unm ucnt uao pa sa ra ga wa ucap pc sc rc gc wc Ms no KB FF _ NN m X.heap.size D C1 X.heap.size S G (HX.out.trans (hbX.mono hWX)) (HRt.out.later hbX) (HUn.out.later (hbX.mono hWX)) hul HUc.out ((HSo.out.later hbX).up hXr) HIds.out hil HKb.out (HKV.out.later hbX) ((HPs.out.later hbX).up hXr) HPf.out hpl hser hRel2 (fun r hr x hx => (hBy2 r hr x hx).later (hbX.mono hD)) (Nat.le_trans hD hXr) (by omega) hIl2 (HG.out.later hbX) HGw.out hGl (fun x hx => ⟨(HGb.out x hx).1.later (hbX.mono hD), (HGb.out x hx).2⟩) _ rfl
end Go.Proofs.Ybulkdkqw.lawS5586AWhole
