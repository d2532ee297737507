import Derived.Test.YbulkdkqwQSet
import Derived.Test.YbulkdkqwQT5
namespace Go.Proofs.Ybulkdkqw.lawS5586AWhole
open Go.ChangeShapes Go.WideShapes Go.ChangeAt Go.RowKit

/-- A peer of the law's input. -/
def E43 : Enc (Int × Int) := ⟨2, fun p => [.int .u64 p.1, .int .u8 p.2], fun _ => rfl, fun _ u hu => by simp at hu; rcases hu with rfl | rfl <;> rfl⟩
def pm3 (p : Peer) : MP := ⟨p.id, p.st, p.since⟩

section
variable {w w' : World} {B Rb : Nat} {sf : Int} {vids : Value} {ids : List Int} {pm um nm mk : Nat} {ps : List Peer}
theorem RS.keep (h : RS w B Rb sf vids ids pm um nm mk ps) (hm : ∀ b, b < w.heap.size → (∀ cur, w.heap[b]? ≠ some (.cells cur 45 (0, 0))) → w'.heap[b]? = w.heap[b]?) : RS w' B Rb sf vids ids pm um nm mk ps := by
  have hc : ∀ {b : Nat} {cur : Array Value} {t : TypeId}, w.heap[b]? = some (.cells cur t (0, 0)) → t ≠ 45 → w'.heap[b]? = w.heap[b]? := fun hb ht => hm _ (Array.getElem?_eq_some_iff.1 hb).1 (cells_ne2 hb ht)
  have hM : ∀ {b n F}, MapF w b F n → MapF w' b F n := fun h => h.of_block (hm _ h.lt (mapF_ne2 h))
  obtain ⟨cR, hR⟩ := h.tR
  have hcc : ∀ j, w'.cell? ⟨Rb, j, none⟩ = w.cell? ⟨Rb, j, none⟩ := fun j => World.cell?_of_block (w := w) (hc hR (by decide))
  refine ⟨⟨(hcc 0).trans h.rt.c0, ?_, (hcc 1).trans h.rt.c1, (hcc 2).trans h.rt.c2, (hcc 3).trans h.rt.c3, (hcc 4).trans h.rt.c4, (hcc 13).trans h.rt.c13, hM h.rt.pmap, hM h.rt.umap, hM h.rt.nmap, fun p hp => ?_, h.rt.uids, h.rt.usf⟩, ⟨cR, (hc hR (by decide)).trans hR⟩, fun p hp => ?_, (hcc 16).trans h.c16, hM h.mine, fun p hp => hM (h.kept p hp), h.nd, h.lo, h.mklo⟩
  · refine h.rt.hids.of_block (fun g hg => ?_)
    obtain ⟨cur, hcur⟩ := h.rt.hids.typed hg
    exact hc hcur (by decide)
  · obtain ⟨cP, hP⟩ := h.tP p hp
    have hp0 := h.rt.peers p hp
    have hcp : ∀ j, w'.cell? ⟨p.blk, j, none⟩ = w.cell? ⟨p.blk, j, none⟩ := fun j => World.cell?_of_block (w := w) (hc hP (by decide))
    exact ⟨(hcp 0).trans hp0.c0, (hcp 1).trans hp0.c1, (hcp 4).trans hp0.c4, (hcp 5).trans hp0.c5, (hcp 7).trans hp0.c7, (hcp 8).trans hp0.c8, (hcp 9).trans hp0.c9, (hcp 10).trans hp0.c10, hM hp0.has, hM hp0.joined, hp0.st0, hp0.st2⟩
  · obtain ⟨cP, hP⟩ := h.tP p hp
    exact ⟨cP, (hc hP (by decide)).trans hP⟩
end

/-- The router and the model's peers, while they are built. -/
structure PB (W w : World) (Rb : Nat) (sf : Int) (pm um nm mk : Nat) (v : Value) (vids : Value) (ids : List Int) (ps : List Peer) : Prop where
  rs : RS w W.heap.size Rb sf vids ids pm um nm mk ps
  sl : Sl E45 45 w W.heap.size v (ps.map pm3)
  bel : Below W.heap.size W w
  sort : ids.Pairwise (· < ·)
  mem : ∀ a, a ∈ ids ↔ ∃ p ∈ ps, p.id = a
  dist : ps.Pairwise (fun a b => a.id ≠ b.id)
  ok : ∀ p ∈ ps, U p.id ∧ p.id ≠ sf
theorem PB.len {W w : World} {Rb : Nat} {sf : Int} {pm um nm mk : Nat} {v vids : Value} {ids : List Int} {ps : List Peer} (h : PB W w Rb sf pm um nm mk v vids ids ps) : ids.length = ps.length := by
  have h1 : ids.Nodup := h.sort.imp (fun h => by omega)
  have h2 : (ps.map (·.id)).Nodup := by rw [List.Nodup, List.pairwise_map]; exact h.dist
  have hp := (List.perm_ext_iff_of_nodup h1 h2).2 (fun a => by rw [h.mem a]; simp)
  rw [hp.length_eq, List.length_map]
theorem PB.later {W w w' : World} {Rb : Nat} {sf : Int} {pm um nm mk : Nat} {v vids : Value} {ids : List Int} {ps : List Peer} (h : PB W w Rb sf pm um nm mk v vids ids ps) (hb : Below w.heap.size w w') : PB W w' Rb sf pm um nm mk v vids ids ps :=
  ⟨h.rs.keep (fun b hl _ => hb.block b hl), h.sl.later hb, h.bel.trans (hb.mono h.bel.size), h.sort, h.mem, h.dist, h.ok⟩

set_option linter.unusedVariables false in
set_option maxRecDepth 1000000 in
set_option maxHeartbeats 16000000 in
theorem t4 {v2 v3 v4 v5 v6 v7 v8 v9 v10 v11 v12 v15 v16 v17 v18 v19 v20 v21 v22 v23 v24 v25 v26 v27 v28 v29 v30 v31 v32 v33 v34 v35 v36 v37 v38 v39 v40 v41 v42 v43 v44 v45 v46 v47 v48 v49 v50 v51 v52 v53 v54 v55 v56 v57 v58 v59 v60 v61 v62 v63 v64 v65 v66 v67 v68 v69 v70 v71 v72 v73 v74 v75 v76 v77 v78 v79 v80 v81 v82 v83 v84 v85 v86 v87 v88 v89 v90 v91 v92 v93 v94 v95 v96 v97 v98 v99 v100 v101 v102 v103 v104 v105 v106 v107 v108 v109 v110 v111 v112 v113 v114 v115 v116 v117 v118 v119 v120 v121 v122 v123 v124 v125 v126 v127 v128 v129 v130 v131 v132 v133 v134 v135 v136 v137 v138 v139 v140 v141 v142 v143 v144 v145 v146 v147 v148 v149 v150 v151 v152 v153 v154 v155 v156 v157 v158 v159 v160 v161 v162 v163 v164 v165 v166 v167 v168 v169 v170 v171 v172 v173 v174 v175 v176 v177 v178 v179 v180 v181 v182 v183 v184 v185 v186 v187 v188 v189 v190 v191 v192 v193 v194 v195 v196 v197 v198 v199 v200 v201 v202 v203 v204 v205 v206 v207 v208 v209 v210 v211 v212 v213 v214 v215 v216 v217 v218 v219 v220 v221 v222 v223 v224 v225 v226 v227 v228 v229 v230 v231 v232 v233 v234 v235 v236 v237 v238 v239 v240 v241 v242 v243 v244 v245 v246 v247 v248 v249 v250 v251 v252 v253 v254 v255 v256 v257 v258 v259 v260 v261 v262 v263 v264 v265 v266 v267 v268 v269 v270 v271 v272 v273 v274 v275 v276 v277 v278 v279 v280 v281 v282 v283 v284 v285 v286 v287 v288 v289 v290 v291 v292 v293 v294 v295 v296 v297 v298 v299 v300 v301 v302 v303 v304 v305 v306 v307 v308 v309 v310 v311 v312 v313 v314 v315 v316 v317 v318 v319 v320 v321 v322 v323 v324 v325 v326 v327 v328 v329 v330 v331 v332 v333 v334 v335 v336 v337 v338 v339 v340 v341 v342 v343 v344 v345 v346 v347 v348 v349 v350 v351 v352 v353 v354 v355 v356 v357 v358 v359 v360 v361 v362 v363 v364 v365 v366 v367 v368 v369 v370 v371 v372 v373 v374 v375 v376 v377 v378 v379 v380 v381 v382 v383 v384 v385 v386 v387 v388 v389 v390 v391 v392 v393 v394 v395 v396 v397 v398 v399 v400 v401 v402 v403 v404 v405 v406 v407 v408 v409 v410 v411 v412 v413 v414 v415 v416 v417 v418 v419 v420 v421 v422 v423 v424 v425 v426 v427 v428 v429 v430 v431 v432 v433 v434 v435 v436 v437 v438 v439 v440 v441 v442 v443 v444 v445 v446 v447 v448 v449 v450 v451 v452 v453 v454 v455 v456 v457 v458 v459 v460 v461 v462 v463 v464 v465 v466 v467 v468 v469 v470 v471 v472 v473 v474 v475 v476 v477 v478 v479 v480 v481 v482 v483 v484 v485 v486 v487 v488 v489 v490 v491 v492 v493 v494 v495 v496 v497 v498 v499 v500 v501 v502 v503 v504 v505 v506 v507 v508 v509 v510 v511 v512 v513 v514 v515 v516 v517 v518 v519 v520 v521 v522 v523 v524 v525 v526 v527 v528 v529 v530 v531 v532 v533 v534 v535 v536 v537 v538 v539 v540 v541 v542 v543 v544 v545 v546 v547 v548 v549 v550 v551 v552 v553 v554 v555 v556 v557 v558 v559 v560 v561 v562 v563 v564 v565 v566 v567 v568 v569 v570 v571 v572 v573 v574 v575 v576 v577 v578 v579 v580 v581 v582 v583 v584 v585 v586 v587 v588 v589 v590 v591 v592 v593 v594 v595 v596 v597 v598 v599 v600 v601 v602 v603 v604 v605 v606 v607 v608 v609 v610 v611 v612 v613 v614 v615 v616 v617 v618 v619 v620 v621 v622 v623 v624 v625 v626 v627 v628 v629 v630 v631 v632 v633 v634 v635 v636 v637 v638 v639 v640 v641 v642 v643 v644 v645 v646 v647 v648 v649 v650 v651 v652 v653 v654 v655 v656 v657 v658 v659 v660 v661 v662 v663 v664 v665 v666 v667 v668 v669 v670 v671 v672 v673 v674 v675 v676 v677 v678 v679 v680 v681 v682 v683 v684 v685 v686 : Value} (W w : World) (Rb : Nat) (sf : Int) (pm um nm mk : Nat) (pls : List (Int × Int)) (pao : Option Addr) (pcap : Nat)
    (h0 : PB W w Rb sf pm um nm mk (.slice none 0 0) (.slice none 0 0) [] []) (hp : In E43 w W.heap.size pao pls) (hpl : pls.length ≤ 1024) (hpu : ∀ p ∈ pls, U p.1 ∧ 0 ≤ p.2 ∧ p.2 ≤ 255) (Q : Exit → Act → World → Prop)
    (hQ : ∀ (u15 u16 u17 u18 u19 u91 u92 u93 u94 u95 u96 u97 u98 u99 u100 u101 u102 u103 u104 u105 u106 u107 u108 u109 u110 u111 u112 u113 u114 u115 u116 u117 u118 u119 u120 u121 u122 u123 u124 u125 u126 u127 u128 u129 u130 u131 u132 u133 u134 x14 : Value) wz vids ids ps, PB W wz Rb sf pm um nm mk x14 vids ids ps → ps.length ≤ 1024 → Code.wp Yba.prog ((Yba.f3.body.map (tailN 5)).getD .skip) Q ⟨#[.int .u64 sf, .slice pao pls.length pcap, v2, v3, v4, v5, v6, v7, v8, v9, v10, v11, v12, .pointer (some ⟨Rb, 0, none⟩), x14, u15, u16, u17, u18, u19, v20, v21, v22, v23, v24, v25, v26, v27, v28, v29, v30, v31, v32, v33, v34, v35, v36, v37, v38, v39, v40, v41, v42, v43, v44, v45, v46, v47, v48, v49, v50, v51, v52, v53, v54, v55, v56, v57, v58, v59, v60, v61, v62, v63, v64, v65, v66, v67, v68, v69, v70, v71, v72, v73, v74, v75, v76, v77, v78, v79, v80, v81, v82, v83, v84, v85, v86, v87, v88, v89, v90, u91, u92, u93, u94, u95, u96, u97, u98, u99, u100, u101, u102, u103, u104, u105, u106, u107, u108, u109, u110, u111, u112, u113, u114, u115, u116, u117, u118, u119, u120, u121, u122, u123, u124, u125, u126, u127, u128, u129, u130, u131, u132, u133, u134, v135, v136, v137, v138, v139, v140, v141, v142, v143, v144, v145, v146, v147, v148, v149, v150, v151, v152, v153, v154, v155, v156, v157, v158, v159, v160, v161, v162, v163, v164, v165, v166, v167, v168, v169, v170, v171, v172, v173, v174, v175, v176, v177, v178, v179, v180, v181, v182, v183, v184, v185, v186, v187, v188, v189, v190, v191, v192, v193, v194, v195, v196, v197, v198, v199, v200, v201, v202, v203, v204, v205, v206, v207, v208, v209, v210, v211, v212, v213, v214, v215, v216, v217, v218, v219, v220, v221, v222, v223, v224, v225, v226, v227, v228, v229, v230, v231, v232, v233, v234, v235, v236, v237, v238, v239, v240, v241, v242, v243, v244, v245, v246, v247, v248, v249, v250, v251, v252, v253, v254, v255, v256, v257, v258, v259, v260, v261, v262, v263, v264, v265, v266, v267, v268, v269, v270, v271, v272, v273, v274, v275, v276, v277, v278, v279, v280, v281, v282, v283, v284, v285, v286, v287, v288, v289, v290, v291, v292, v293, v294, v295, v296, v297, v298, v299, v300, v301, v302, v303, v304, v305, v306, v307, v308, v309, v310, v311, v312, v313, v314, v315, v316, v317, v318, v319, v320, v321, v322, v323, v324, v325, v326, v327, v328, v329, v330, v331, v332, v333, v334, v335, v336, v337, v338, v339, v340, v341, v342, v343, v344, v345, v346, v347, v348, v349, v350, v351, v352, v353, v354, v355, v356, v357, v358, v359, v360, v361, v362, v363, v364, v365, v366, v367, v368, v369, v370, v371, v372, v373, v374, v375, v376, v377, v378, v379, v380, v381, v382, v383, v384, v385, v386, v387, v388, v389, v390, v391, v392, v393, v394, v395, v396, v397, v398, v399, v400, v401, v402, v403, v404, v405, v406, v407, v408, v409, v410, v411, v412, v413, v414, v415, v416, v417, v418, v419, v420, v421, v422, v423, v424, v425, v426, v427, v428, v429, v430, v431, v432, v433, v434, v435, v436, v437, v438, v439, v440, v441, v442, v443, v444, v445, v446, v447, v448, v449, v450, v451, v452, v453, v454, v455, v456, v457, v458, v459, v460, v461, v462, v463, v464, v465, v466, v467, v468, v469, v470, v471, v472, v473, v474, v475, v476, v477, v478, v479, v480, v481, v482, v483, v484, v485, v486, v487, v488, v489, v490, v491, v492, v493, v494, v495, v496, v497, v498, v499, v500, v501, v502, v503, v504, v505, v506, v507, v508, v509, v510, v511, v512, v513, v514, v515, v516, v517, v518, v519, v520, v521, v522, v523, v524, v525, v526, v527, v528, v529, v530, v531, v532, v533, v534, v535, v536, v537, v538, v539, v540, v541, v542, v543, v544, v545, v546, v547, v548, v549, v550, v551, v552, v553, v554, v555, v556, v557, v558, v559, v560, v561, v562, v563, v564, v565, v566, v567, v568, v569, v570, v571, v572, v573, v574, v575, v576, v577, v578, v579, v580, v581, v582, v583, v584, v585, v586, v587, v588, v589, v590, v591, v592, v593, v594, v595, v596, v597, v598, v599, v600, v601, v602, v603, v604, v605, v606, v607, v608, v609, v610, v611, v612, v613, v614, v615, v616, v617, v618, v619, v620, v621, v622, v623, v624, v625, v626, v627, v628, v629, v630, v631, v632, v633, v634, v635, v636, v637, v638, v639, v640, v641, v642, v643, v644, v645, v646, v647, v648, v649, v650, v651, v652, v653, v654, v655, v656, v657, v658, v659, v660, v661, v662, v663, v664, v665, v666, v667, v668, v669, v670, v671, v672, v673, v674, v675, v676, v677, v678, v679, v680, v681, v682, v683, v684, v685, v686], []⟩ wz)
    (code : Code) (hc : Yba.f3.body.map (tailN 4) = some code) :
    Code.wp Yba.prog code Q ⟨#[.int .u64 sf, .slice pao pls.length pcap, v2, v3, v4, v5, v6, v7, v8, v9, v10, v11, v12, .pointer (some ⟨Rb, 0, none⟩), .slice none 0 0, v15, v16, v17, v18, v19, v20, v21, v22, v23, v24, v25, v26, v27, v28, v29, v30, v31, v32, v33, v34, v35, v36, v37, v38, v39, v40, v41, v42, v43, v44, v45, v46, v47, v48, v49, v50, v51, v52, v53, v54, v55, v56, v57, v58, v59, v60, v61, v62, v63, v64, v65, v66, v67, v68, v69, v70, v71, v72, v73, v74, v75, v76, v77, v78, v79, v80, v81, v82, v83, v84, v85, v86, v87, v88, v89, v90, v91, v92, v93, v94, v95, v96, v97, v98, v99, v100, v101, v102, v103, v104, v105, v106, v107, v108, v109, v110, v111, v112, v113, v114, v115, v116, v117, v118, v119, v120, v121, v122, v123, v124, v125, v126, v127, v128, v129, v130, v131, v132, v133, v134, v135, v136, v137, v138, v139, v140, v141, v142, v143, v144, v145, v146, v147, v148, v149, v150, v151, v152, v153, v154, v155, v156, v157, v158, v159, v160, v161, v162, v163, v164, v165, v166, v167, v168, v169, v170, v171, v172, v173, v174, v175, v176, v177, v178, v179, v180, v181, v182, v183, v184, v185, v186, v187, v188, v189, v190, v191, v192, v193, v194, v195, v196, v197, v198, v199, v200, v201, v202, v203, v204, v205, v206, v207, v208, v209, v210, v211, v212, v213, v214, v215, v216, v217, v218, v219, v220, v221, v222, v223, v224, v225, v226, v227, v228, v229, v230, v231, v232, v233, v234, v235, v236, v237, v238, v239, v240, v241, v242, v243, v244, v245, v246, v247, v248, v249, v250, v251, v252, v253, v254, v255, v256, v257, v258, v259, v260, v261, v262, v263, v264, v265, v266, v267, v268, v269, v270, v271, v272, v273, v274, v275, v276, v277, v278, v279, v280, v281, v282, v283, v284, v285, v286, v287, v288, v289, v290, v291, v292, v293, v294, v295, v296, v297, v298, v299, v300, v301, v302, v303, v304, v305, v306, v307, v308, v309, v310, v311, v312, v313, v314, v315, v316, v317, v318, v319, v320, v321, v322, v323, v324, v325, v326, v327, v328, v329, v330, v331, v332, v333, v334, v335, v336, v337, v338, v339, v340, v341, v342, v343, v344, v345, v346, v347, v348, v349, v350, v351, v352, v353, v354, v355, v356, v357, v358, v359, v360, v361, v362, v363, v364, v365, v366, v367, v368, v369, v370, v371, v372, v373, v374, v375, v376, v377, v378, v379, v380, v381, v382, v383, v384, v385, v386, v387, v388, v389, v390, v391, v392, v393, v394, v395, v396, v397, v398, v399, v400, v401, v402, v403, v404, v405, v406, v407, v408, v409, v410, v411, v412, v413, v414, v415, v416, v417, v418, v419, v420, v421, v422, v423, v424, v425, v426, v427, v428, v429, v430, v431, v432, v433, v434, v435, v436, v437, v438, v439, v440, v441, v442, v443, v444, v445, v446, v447, v448, v449, v450, v451, v452, v453, v454, v455, v456, v457, v458, v459, v460, v461, v462, v463, v464, v465, v466, v467, v468, v469, v470, v471, v472, v473, v474, v475, v476, v477, v478, v479, v480, v481, v482, v483, v484, v485, v486, v487, v488, v489, v490, v491, v492, v493, v494, v495, v496, v497, v498, v499, v500, v501, v502, v503, v504, v505, v506, v507, v508, v509, v510, v511, v512, v513, v514, v515, v516, v517, v518, v519, v520, v521, v522, v523, v524, v525, v526, v527, v528, v529, v530, v531, v532, v533, v534, v535, v536, v537, v538, v539, v540, v541, v542, v543, v544, v545, v546, v547, v548, v549, v550, v551, v552, v553, v554, v555, v556, v557, v558, v559, v560, v561, v562, v563, v564, v565, v566, v567, v568, v569, v570, v571, v572, v573, v574, v575, v576, v577, v578, v579, v580, v581, v582, v583, v584, v585, v586, v587, v588, v589, v590, v591, v592, v593, v594, v595, v596, v597, v598, v599, v600, v601, v602, v603, v604, v605, v606, v607, v608, v609, v610, v611, v612, v613, v614, v615, v616, v617, v618, v619, v620, v621, v622, v623, v624, v625, v626, v627, v628, v629, v630, v631, v632, v633, v634, v635, v636, v637, v638, v639, v640, v641, v642, v643, v644, v645, v646, v647, v648, v649, v650, v651, v652, v653, v654, v655, v656, v657, v658, v659, v660, v661, v662, v663, v664, v665, v666, v667, v668, v669, v670, v671, v672, v673, v674, v675, v676, v677, v678, v679, v680, v681, v682, v683, v684, v685, v686], []⟩ w := by
  cases hc
  conv => arg 2; whnf
  have HQ := show Hid _ from hQ
  have H0 : Hid (PB W w Rb sf pm um nm mk (.slice none 0 0) (.slice none 0 0) [] []) := h0
  have HP : Hid (In E43 w W.heap.size pao pls) := hp
  have HPu : Hid (∀ p ∈ pls, U p.1 ∧ 0 ≤ p.2 ∧ p.2 ≤ 255) := hpu
  have hWw : W.heap.size ≤ w.heap.size := h0.bel.size
  have HIn : Hid (∀ wr, Below W.heap.size W wr → In E43 wr W.heap.size pao pls) := fun wr hb => by
    intro h
    obtain ⟨b, off, e, hl, hcell⟩ := hp h
    refine ⟨b, off, e, hl, fun i x hx j u hu => ?_⟩
    have h1 := hcell i x hx j u hu
    have h2 : w.cell? ⟨b, off + (i * E43.s + j), none⟩ = W.cell? ⟨b, off + (i * E43.s + j), none⟩ := h0.bel.cell hl
    have h3 : wr.cell? ⟨b, off + (i * E43.s + j), none⟩ = W.cell? ⟨b, off + (i * E43.s + j), none⟩ := hb.cell hl
    rw [h3, ← h2]; exact h1
  clear h0 hp hpu hQ
  refine wp_seq_k ?_
  intro K hK
  have HK := show Hid _ from hK
  clear hK
  go_wp2_with fail
  go_loopw [14, 93] (fun v ix wr => ∃ (k : Nat) (vids : Value) (ids : List Int) (ps : List Peer), k ≤ pls.length ∧ ix = .int .i64 k ∧ PB W wr Rb sf pm um nm mk v vids ids ps ∧ ps.length ≤ k) (fun _ ix _ => pls.length - (intOf ix).toNat)
  case atStart => exact ⟨0, _, _, [], Nat.zero_le _, rfl, H0.out, Nat.le_refl _⟩
  case round =>
    obtain ⟨k, vids, ids, ps, hk, rfl, hPB, hpk⟩ := hrel
    have HPB : Hid (PB W wr Rb sf pm um nm mk u14 vids ids ps) := hPB
    obtain ⟨psa, psc, hu14, hop⟩ := hPB.sl.open
    rw [List.length_map] at hu14
    subst hu14
    have HOp : Hid (0 < ps.length → ∃ g, psa = some ⟨g, 0, none⟩ ∧ g < wr.heap.size ∧ ∀ (i : Nat) (p : Peer), ps[i]? = some p → wr.cell? ⟨g, i * 3, none⟩ = some (.int .u64 p.id)) := fun h => by
      obtain ⟨g, h1, _, h2, _, _, h3⟩ := hop (by simpa using h)
      refine ⟨g, h1, h2, fun i p hp => ?_⟩
      have := h3 i (pm3 p) (by rw [List.getElem?_map, hp]; rfl) 0 _ rfl
      simpa [E45, pm3] using this
    clear hPB hop
    by_cases hlt : k < pls.length
    · obtain ⟨b, off, rfl, hbl, hcell⟩ := HIn.out wr HPB.out.bel (by omega)
      obtain ⟨⟨id, st⟩, ha⟩ : ∃ a, pls[k]? = some a := ⟨_, List.getElem?_eq_getElem hlt⟩
      have d0 := hcell k _ ha 0 _ rfl
      have d1 := hcell k _ ha 1 _ rfl
      simp only [E43, Nat.add_zero, ← Nat.add_assoc] at d0 d1
      obtain ⟨hid, hst0, hst1⟩ := HPu.out _ (List.mem_of_getElem? ha)
      simp only at hid hst0 hst1
      have HA : Hid (k < pls.length) := hlt
      have i1 : (k : Int) < (pls.length : Int) := by omega
      clear hcell ha hlt
      obtain ⟨wo, hwo⟩ : ∃ wo, wo = wr := ⟨_, rfl⟩
      subst hwo
      by_cases hs : id = sf
      · have hsb : (id == sf) = true := by simpa using hs
        clear hs
        go_wp2_with fail
        go_roundw
        case rel => exact ⟨k + 1, vids, ids, ps, by have := HA.out; omega, by go_num, HPB.out.later (nb (Below.refl _ _) (Nat.le_refl _) _), by omega⟩
        case measure => have := HA.out; simp [intOf]; omega
      · have hsb : (id == sf) = false := by simpa using hs
        have HSf : Hid (¬ id = sf) := hs
        clear hs
        go_wp2_with fail
        generalize hw1 : World.alloc _ _ = w1
        have hb1 : Below wo.heap.size wo w1 := by subst hw1; exact nb (Below.refl _ _) (Nat.le_refl _) _
        have hblk : w1.heap[wo.heap.size]? = some (.cells #[.int .u64 id, .int .u8 st] 43 (0, 0)) := by subst hw1; exact Deep.blk_alloc_new _ _
        have hs1 : w1.heap.size = wo.heap.size + 1 := by subst hw1; simp
        clear hw1
        have HB1 : Hid (Below wo.heap.size wo w1) := hb1
        have HBk : Hid (∀ wq, Below w1.heap.size w1 wq → wq.heap[wo.heap.size]? = some (.cells #[.int .u64 id, .int .u8 st] 43 (0, 0)) ∧ wq.cell? ⟨wo.heap.size, 0, none⟩ = some (.int .u64 id) ∧ wq.cell? ⟨wo.heap.size, 1, none⟩ = some (.int .u8 st)) := fun wq hq => by
          have h := (hq.block wo.heap.size (by omega)).trans hblk
          exact ⟨h, by simp [World.cell?, h], by simp [World.cell?, h]⟩
        clear hb1 hblk d0 d1
        go_loopw [17, 103] (fun dv ix wr => ∃ j : Nat, j ≤ ps.length ∧ dv = .bool false ∧ ix = .int .i64 j ∧ Below w1.heap.size w1 wr ∧ ∀ (i : Nat) p, i < j → ps[i]? = some p → ¬ p.id = id) (fun _ ix _ => ps.length - (intOf ix).toNat)
        case atStart => exact ⟨0, Nat.zero_le _, rfl, rfl, Below.refl _ _, fun i p hi => by omega⟩
        case round =>
          obtain ⟨j, hj, rfl, rfl, hb2, hno⟩ := hrel
          have HB2 : Hid (Below w1.heap.size w1 wr) := hb2
          have HB02 : Hid (Below wo.heap.size wo wr) := HB1.out.trans (hb2.mono (by omega))
          have HN : Hid (∀ (i : Nat) p, i < j → ps[i]? = some p → ¬ p.id = id) := hno
          obtain ⟨_, x0, x1⟩ := HBk.out wr hb2
          clear hb2 hno
          by_cases hjl : j < ps.length
          · obtain ⟨p, hp⟩ : ∃ p, ps[j]? = some p := ⟨_, List.getElem?_eq_getElem hjl⟩
            obtain ⟨g, rfl, hgl, hcg⟩ := HOp.out (by omega)
            have d0 := (HB02.out.cell (p := ⟨g, j * 3, none⟩) hgl).trans (hcg j p hp)
            have HJ : Hid (ps[j]? = some p ∧ j < ps.length) := ⟨hp, hjl⟩
            have i2 : (j : Int) < (ps.length : Int) := by omega
            clear hcg hp
            by_cases he : p.id = id
            · have heb : (p.id == id) = true := by simpa using he
              clear he hjl
              go_wp2_with fail
              go_quiet (fail)
              go_wp2_with fail
              go_roundw
              case rel => exact ⟨k + 1, vids, ids, ps, by have := HA.out; omega, by go_num, HPB.out.later (below_drewN HB02.out _), by omega⟩
              case measure => have := HA.out; simp [intOf]; omega
            · have heb : (p.id == id) = false := by simpa using he
              have HE : Hid (¬ p.id = id) := he
              clear he hjl
              go_wp2_with fail
              go_quiet (fail)
              go_wp2_with fail
              go_roundw
              case rel =>
                refine ⟨j + 1, by have := HJ.out.2; omega, rfl, by go_num, below_drewN HB2.out _, fun i q hi hq => ?_⟩
                rcases Nat.lt_or_ge i j with h | h
                · exact HN.out i q h hq
                · have : i = j := by omega
                  subst this
                  rw [HJ.out.1] at hq
                  injection hq with hq
                  rw [← hq]; exact HE.out
              case measure => have := HJ.out.2; simp [intOf]; omega
          · have hjn : j = ps.length := by omega
            subst hjn
            clear hjl
            have hnew : ∀ p ∈ ps, p.id ≠ id := fun p hp => by
              obtain ⟨i, hi, rfl⟩ := List.getElem_of_mem hp
              exact HN.out i _ hi (List.getElem?_eq_getElem hi)
            have hPB2 := HPB.out.later HB02.out
            have hlen := hPB2.len
            have hcall := setPeer_any wr W.heap.size Rb sf vids ids pm um nm mk ps id (st % 3) hPB2.rs hPB2.sort hid hnew ⟨by omega, by omega⟩ (by omega) (by omega) hPB2.bel.size
            have HCall : Hid (Calls Yba.prog 6 #[.pointer (some ⟨Rb, 0, none⟩), .int .u64 id, .int .u8 (st % 3)] wr fun e w' => SetP wr W.heap.size Rb sf ids pm um nm mk ps id (st % 3) e w') := hcall
            have HPB2 : Hid (PB W wr Rb sf pm um nm mk (.slice psa ps.length psc) vids ids ps) := hPB2
            have HNew : Hid (∀ p ∈ ps, p.id ≠ id) := hnew
            have hst3 : 0 ≤ st % 3 ∧ st % 3 ≤ 2 := ⟨by omega, by omega⟩
            clear hnew hPB2 hlen hcall
            go_wp2_with fail
            refine HCall.out.mono ?_
            rintro e w5 ⟨rfl, vids', ids', p, hpid, hpst, hpsi, hRS, hso, hmem, hbl5, hty⟩
            obtain ⟨hblk, _, _⟩ := HBk.out wr HB2.out
            have y0 : w5.cell? ⟨wo.heap.size, 0, none⟩ = some (.int .u64 id) := by
              have h := (hty _ _ _ hblk (by decide) (by decide)).trans hblk
              simp [World.cell?, h]
            have hsl5 : Sl E45 45 w5 W.heap.size (.slice psa ps.length psc) (ps.map pm3) := HPB2.out.sl.of_block (fun g hg => by
              obtain ⟨cur, hcur⟩ := HPB2.out.sl.typed hg
              exact hty g cur 45 hcur (by decide) (by decide))
            have hbW5 : Below W.heap.size W w5 := HPB2.out.bel.trans hbl5
            obtain ⟨v6, w6, hrun, hS6, hg6, _⟩ := hsl5.push (T := 41) Yba.underlying41 info45 rfl (by decide) hbW5.size (by rw [List.length_map]; omega) (by decide) (pm3 p) #[.int .u64 p.id, .int .u8 p.st, .int .u64 p.since] rfl
            have hT6 : TOnly 45 w5 w6 := TOnly.of_row hg6 (fun g hg => hsl5.typed hg)
            have HPB6 : Hid (PB W w6 Rb sf pm um nm mk v6 vids' ids' (ps ++ [p])) := by
              refine ⟨hRS.keep hT6.block, by simpa using hS6, hbW5.trans (grown_below hg6 (fun j hj => (hsl5.lt hj).1) hbW5.size), hso, fun a => ?_, ?_, fun q hq => ?_⟩
              · rw [hmem a, HPB2.out.mem a]
                constructor
                · rintro (rfl | ⟨q, hq, rfl⟩)
                  · exact ⟨p, by simp, hpid⟩
                  · exact ⟨q, by simp [hq], rfl⟩
                · rintro ⟨q, hq, rfl⟩
                  rcases List.mem_append.1 hq with hq | hq
                  · exact .inr ⟨q, hq, rfl⟩
                  · simp at hq; subst hq; exact .inl hpid
              · rw [List.pairwise_append]
                refine ⟨HPB2.out.dist, by simp, fun x hx y hy => ?_⟩
                simp at hy
                subst hy
                rw [hpid]
                exact HNew.out x hx
              · rcases List.mem_append.1 hq with hq | hq
                · exact HPB2.out.ok q hq
                · simp at hq; subst hq
                  rw [hpid]
                  exact ⟨hid, HSf.out⟩
            rw [hpid, hpst, hpsi] at hrun
            have HPl : Hid ((ps ++ [p]).length ≤ k + 1) := by
              show (ps ++ [p]).length ≤ k + 1
              rw [List.length_append, List.length_singleton]
              omega
            clear hpid hpst hpsi hRS hso hmem hbl5 hty hblk hsl5 hbW5 hS6 hg6 hT6 x0 x1
            go_wp2_with (at_builtin; refine wpList_append_run 41 hrun rfl _ _ rfl rfl rfl rfl ?_)
            go_roundw
            case rel => exact ⟨k + 1, vids', ids', ps ++ [p], by have := HA.out; omega, by go_num, HPB6.out, HPl.out⟩
            case measure => have := HA.out; simp [intOf]; omega
    · have hkn : k = pls.length := by omega
      subst hkn
      clear hlt
      go_wp2_with fail
      refine HK.out _ _ ?_
      exact HQ.out _ _ _ _ _ _ _ _ _ _ _ _ _ _ _ _ _ _ _ _ _ _ _ _ _ _ _ _ _ _ _ _ _ _ _ _ _ _ _ _ _ _ _ _ _ _ _ _ _ _ wr vids ids ps HPB.out (by omega)
end Go.Proofs.Ybulkdkqw.lawS5586AWhole
