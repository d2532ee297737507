import Derived.Test.YbulkdkqwQL89
namespace Go.Proofs.Ybulkdkqw.lawS5586AWhole
open Go.ChangeShapes Go.WideShapes Go.ChangeAt Go.RowKit

/-- A post that bears no panic. -/
def PQ (Q : Exit → Act → World → Prop) : Exit → Act → World → Prop
  | .panic _, _, _ => False
  | e, a, w => Q e a w
theorem PQ.le {Q : Exit → Act → World → Prop} {e : Exit} {a : Act} {w : World} (h : PQ Q e a w) : Q e a w := by
  cases e <;> first | exact h | exact h.elim

def toB (nme es : Int) (q : MP) : Bool := (q.id != nme) && (q.st != 2) && decide (0 < es)

/-- The model's sorted peers are the router's. -/
structure SortM (Ms : List MP) (ids : List Int) (ps : List Peer) (sf : Int) : Prop where
  ids : ids = Ms.map (·.id)
  mem : ∀ q ∈ Ms, ∃ p ∈ ps, q = mpOf p
  find : ∀ p ∈ ps, U p.id ∧ ps.find? (fun q => q.id == p.id) = some p
  other : ∀ p ∈ ps, p.id ≠ sf

theorem find_congr' {α : Type} {f g : α → Bool} : ∀ {l : List α}, (∀ x ∈ l, f x = g x) → l.find? f = l.find? g
  | [], _ => rfl
  | x :: l, h => by
    rw [List.find?_cons, List.find?_cons, h x (by simp), find_congr' (fun y hy => h y (by simp [hy]))]

section
variable {Ms : List MP} {ids : List Int} {ps : List Peer} {sf : Int}
theorem SortM.to_eq (h : SortM Ms ids ps sf) (nme es : Int) : ids.filter (lackId ps nme es sf) = (Ms.filter (toB nme es)).map (·.id) := by
  rw [h.ids, List.filter_map]
  congr 1
  apply List.filter_congr
  intro q hq
  obtain ⟨p, hp, rfl⟩ := h.mem q hq
  have hn : (p.id != sf) = true := by simpa using h.other p hp
  show lackId ps nme es sf p.id = toB nme es (mpOf p)
  unfold lackId
  rw [(h.find p hp).2]
  simp only [lackB, toB, mpOf, hn, Bool.and_true]
theorem SortM.reach_eq (h : SortM Ms ids ps sf) (p : Peer) : reachM (mpOf p) Ms = reachB ps ids p := by
  unfold reachM reachB bridgeF
  have e : ids.find? (canId ps p.since) = (Ms.find? (bridM (mpOf p))).map (·.id) := by
    rw [h.ids, List.find?_map]
    congr 1
    apply find_congr'
    intro q hq
    obtain ⟨p', hp', rfl⟩ := h.mem q hq
    show canId ps p.since p'.id = _
    unfold canId
    rw [(h.find p' hp').2]
    rfl
  rw [e]
  show ((p.st == 0) || ((p.st == 1) && _)) = _
  congr 2
  cases Ms.find? (bridM (mpOf p)) <;> rfl
end

def cutB (ps : List Peer) (ids : List Int) (sf : Int) (p : Peer) (tt : List Int) : Bool := reachB ps ids p && (sf != 0) && decide (0 < tt.length)
theorem now_cut (ps : List Peer) (ids : List Int) (sf : Int) (p : Peer) (tt : List Int) : nowF ps ids sf p tt = if cutB ps ids sf p tt = true then [] else tt := by
  unfold nowF cutB
  cases reachB ps ids p with
  | false => simp
  | true =>
    by_cases h1 : 0 < tt.length
    · by_cases h2 : sf = 0
      · simp [h1, h2]
      · have : ¬ (0 : Int) = sf := fun e => h2 e.symm
        simp [h1, h2, this]
    · have : tt = [] := by cases tt with | nil => rfl | cons _ _ => simp at h1
      simp [this]
theorem step_some {ps : List Peer} {unm ids : List Int} {sf : Int} {up : Int → Int} {T : TT} {G : List (Msg × List Int)} {e : Env} {g : Msg} {p : Peer} {j : Nat} {tt : List Int} (hne : ¬ e.origin = sf) (hp : ps.find? (fun p => p.id == e.origin) = some p) (hj : ps.findIdx (fun p => p.id == e.origin) = j) (htt : ids.filter (lackId ps e.name e.seq sf) = tt) :
    stepT ps unm ids sf up T (e, g) = (if (cutB ps ids sf p tt || awaitB unm e.name) = true then putT T (j : Int) e.name (km e g sf) else T) ∧ stepG ps ids sf G (e, g) = (if (!cutB ps ids sf p tt && decide (0 < tt.length)) = true then G ++ [(g, tt)] else G) := by
  have hown : ownI (ownOf ps e.origin) = (j : Int) := by unfold ownOf; rw [hj]; rfl
  have hlt : decide ((nowF ps ids sf p tt).length < tt.length) = cutB ps ids sf p tt := by
    rw [now_cut]
    cases hc : cutB ps ids sf p tt with
    | false => simp
    | true =>
      unfold cutB at hc
      simp only [Bool.and_eq_true, decide_eq_true_eq] at hc
      simp [hc.2]
  constructor
  · unfold stepT
    simp only [hp]
    rw [if_neg hne, htt, hlt, hown]
  · unfold stepG
    simp only [hp]
    rw [if_neg hne, htt, now_cut]
    cases hc : cutB ps ids sf p tt with
    | false => simp
    | true => simp
theorem step_none {ps : List Peer} {unm ids : List Int} {sf : Int} {up : Int → Int} {T : TT} {G : List (Msg × List Int)} {e : Env} {g : Msg} (hne : ¬ e.origin = sf) (hp : ps.find? (fun p => p.id == e.origin) = none) :
    stepT ps unm ids sf up T (e, g) = T ∧ stepG ps ids sf G (e, g) = G := by
  constructor
  · unfold stepT
    simp only [hp]
    rw [if_neg hne]
  · unfold stepG
    simp only [hp]
    rw [if_neg hne]
theorem step_self {ps : List Peer} {unm ids : List Int} {sf : Int} {up : Int → Int} {T : TT} {G : List (Msg × List Int)} {e : Env} {g : Msg} (he : e.origin = sf) :
    stepT ps unm ids sf up T (e, g) = (if e.seq ≤ up e.name then putT T (-1) e.name (km e g sf) else T) ∧ stepG ps ids sf G (e, g) = G := by
  constructor
  · unfold stepT; rw [if_pos he]
  · unfold stepG; rw [if_pos he]

set_option linter.unusedVariables false in
set_option maxRecDepth 1000000 in
set_option maxHeartbeats 16000000 in
/-- One round of the model, from the origin's test on. -/
theorem l70 {v1 v5 v6 v7 v8 v9 v10 v11 v12 v13 v15 v16 v17 v18 v19 v21 v22 v23 v24 v25 v26 v27 v28 v29 v31 v32 v33 v34 v35 v41 v42 v43 v44 v45 v46 v47 v48 v49 v50 v51 v52 v53 v54 v55 v56 v57 v58 v59 v60 v61 v62 v63 v64 v65 v66 v67 v68 v69 v70 v71 v72 v73 v74 v75 v76 v77 v78 v79 v80 v81 v82 v83 v84 v85 v86 v87 v88 v89 v90 v91 v92 v93 v94 v95 v96 v97 v98 v99 v100 v101 v102 v103 v104 v105 v106 v107 v108 v109 v110 v111 v112 v113 v114 v115 v116 v117 v118 v119 v120 v121 v122 v123 v124 v125 v126 v127 v128 v129 v130 v131 v132 v133 v134 v135 v136 v137 v138 v139 v140 v141 v142 v143 v144 v145 v146 v147 v148 v149 v150 v151 v152 v153 v154 v155 v156 v157 v158 v159 v160 v161 v162 v163 v164 v165 v166 v167 v168 v169 v170 v171 v172 v173 v174 v175 v176 v177 v178 v179 v180 v181 v182 v183 v184 v185 v186 v187 v188 v189 v190 v191 v192 v193 v194 v195 v196 v197 v198 v199 v200 v201 v202 v203 v204 v205 v206 v207 v208 v209 v210 v211 v212 v213 v214 v215 v216 v217 v218 v219 v220 v221 v222 v223 v224 v225 v226 v227 v228 v229 v230 v231 v232 v233 v234 v235 v236 v237 v238 v239 v240 v241 v242 v243 v244 v245 v246 v247 v248 v249 v250 v251 v252 v253 v254 v255 v256 v257 v258 v259 v260 v261 v262 v263 v264 v265 v266 v267 v268 v269 v270 v271 v272 v273 v274 v275 v276 v277 v278 v279 v280 v281 v282 v283 v284 v285 v286 v287 v288 v289 v290 v291 v292 v293 v294 v295 v296 v297 v298 v299 v300 v301 v302 v303 v304 v305 v306 v307 v308 v309 v310 v311 v312 v313 v314 v315 v316 v317 v318 v319 v320 v321 v322 v323 v324 v325 v326 v327 v328 v329 v330 v331 v332 v333 v334 v335 v336 v337 v338 v339 v340 v341 v342 v343 v344 v345 v346 v347 v348 v349 v350 v351 v352 v353 v354 v355 v356 v357 v358 v359 v360 v361 v362 v363 v364 v365 v366 v367 v368 v369 v370 v371 v372 v373 v374 v375 v376 v377 v378 v379 v380 v381 v382 v383 v384 v385 v386 v387 v388 v389 v390 v391 v392 v393 v394 v395 v396 v397 v398 v399 v400 v401 v402 v403 v404 v405 v406 v407 v408 v409 v410 v411 v412 v413 v414 v415 v416 v417 v418 v419 v420 v421 v422 v423 v424 v425 v426 v427 v428 v429 v430 v431 v432 v433 v434 v435 v436 v437 v438 v439 v440 v441 v442 v443 v444 v445 v446 v447 v448 v449 v450 v451 v452 v453 v454 v455 v456 v457 v458 v459 v460 v461 v462 v463 v464 v465 v466 v467 v468 v469 v470 v471 v472 v473 v474 v475 v476 v477 v478 v479 v480 v481 v482 v483 v484 v485 v486 v487 v488 v489 v490 v491 v492 v493 v494 v495 v496 v497 v498 v499 v500 v501 v502 v503 v504 v505 v506 v507 v508 v509 v510 v511 v512 v513 v514 v515 v516 v517 v518 v519 v520 v521 v522 v523 v524 v525 v526 v527 v528 v529 v530 v531 v532 v533 v534 v535 v536 v537 v538 v539 v540 v541 v542 v543 v544 v545 v546 v547 v548 v549 v550 v551 v552 v553 v554 v555 v556 v557 v558 v559 v560 v561 v562 v563 v564 v565 v566 v567 v568 v569 v570 v571 v572 v573 v574 v575 v576 v577 v578 v579 v580 v581 v582 v583 v584 v585 v586 v587 v588 v589 v590 v591 v592 v593 v594 v595 v596 v597 v598 v599 v600 v601 v602 v603 v604 v605 v606 v607 v608 v609 v610 v611 v612 v613 v614 v615 v616 v617 v618 v619 v620 v621 v622 v623 v624 v625 v626 v627 v628 v629 v630 v631 v632 v633 v634 v635 v636 v637 v638 v639 v640 v641 v642 v643 v644 v645 v646 v647 v648 v649 v650 v651 v652 v653 v654 v655 v656 v657 v658 v659 v660 v661 v662 v663 v664 v665 v666 v667 v668 v669 v670 v671 v672 v673 v674 v675 v676 v677 v678 v679 v680 v681 v682 v683 v684 v685 v686 : Value} (W X w : World) (sf us : Int) (unm ids : List Int) (ps : List Peer) (pairs : List (Int × Int)) (Ms : List MP) (uao qao pa sa : Option Addr) (ucap qcap pc sc mb n mcap k eb : Nat) (eo ei es nme : Int) (mo : Option Addr) (ml mc : Nat) (vser vwant : Value) (S : List SR) (T : TT) (G : List (Msg × List Int))
    (hnme : Env.name ⟨eo, ei, es⟩ = nme) (hWX : W.heap.size ≤ X.heap.size) (hb : Below X.heap.size X w) (hu : In E64 X W.heap.size uao unm) (hul : unm.length ≤ 1024) (hq : In EP X W.heap.size qao pairs) (hql : pairs.length ≤ 1024) (hps : In E45 X X.heap.size pa (ps.map mpOf)) (hpl : ps.length ≤ 1024) (hs : In E45 X X.heap.size sa Ms) (hM : SortM Ms ids ps sf) (hil : ids.length ≤ 1024)
    (hSer : Ser w X.heap.size vser S) (hKey : S.map keyS = T) (hG : Got w X.heap.size vwant G) (hGl : G.length ≤ 2000)
    (heb : ∃ cur, w.heap[eb]? = some (.cells cur 56 (0, 0))) (he0 : w.cell? ⟨eb, 0, none⟩ = some (.int .u64 eo)) (hes : w.cell? ⟨eb, 2, none⟩ = some (.int .u64 es)) (hml : mb < X.heap.size) (hmm : X.cell? ⟨mb, k, none⟩ = some (.slice mo ml mc)) (hkn : k < n) (hSl : S.length ≤ 2000) (hIl : ∀ t ∈ T, t.2.2.length ≤ 2000) (Q : Exit → Act → World → Prop)
    (hQ : ∀ (u41 u42 u43 u45 u46 u290 u291 u292 u293 u294 u295 u296 u297 u298 u299 u300 u301 u302 u303 u304 u305 u306 u307 u308 u309 u310 u311 u312 u313 u314 u315 u316 u317 u318 u319 u320 u321 u322 u323 u324 u325 u326 u327 u328 u329 u330 u331 u332 u333 u334 u335 u336 u337 u338 u339 u340 u341 u342 u343 u344 u345 u346 u347 u348 u349 u350 u351 u352 u353 u354 u355 u356 u357 u358 u359 u360 u361 u362 u363 u364 u365 u366 u367 u368 u369 u370 u371 u372 u373 u374 u375 u376 u377 u378 u379 u380 u381 u382 u383 u384 u385 u386 u387 u388 u389 u390 u391 u392 u393 u394 u395 u396 u397 u398 u399 u400 u401 u402 u403 u404 x36 x37 : Value) w' S', Ser w' X.heap.size x36 S' → S'.map keyS = stepT ps unm ids sf (upF sf us pairs) T (⟨eo, ei, es⟩, ⟨mo, ml, mc⟩) → Got w' X.heap.size x37 (stepG ps ids sf G (⟨eo, ei, es⟩, ⟨mo, ml, mc⟩)) → Below X.heap.size X w' → Q .normal ⟨#[.int .u64 sf, v1, .slice uao unm.length ucap, .int .u64 us, .slice qao pairs.length qcap, v5, v6, v7, v8, v9, v10, v11, v12, v13, .slice pa ps.length pc, v15, v16, v17, v18, v19, .slice sa ids.length sc, v21, v22, v23, v24, v25, v26, v27, v28, v29, .slice (some ⟨mb, 0, none⟩) n mcap, v31, v32, v33, v34, v35, x36, x37, .int .i64 (k : Int), .pointer (some ⟨eb, 0, none⟩), .int .u64 nme, u41, u42, u43, v44, u45, u46, v47, v48, v49, v50, v51, v52, v53, v54, v55, v56, v57, v58, v59, v60, v61, v62, v63, v64, v65, v66, v67, v68, v69, v70, v71, v72, v73, v74, v75, v76, v77, v78, v79, v80, v81, v82, v83, v84, v85, v86, v87, v88, v89, v90, v91, v92, v93, v94, v95, v96, v97, v98, v99, v100, v101, v102, v103, v104, v105, v106, v107, v108, v109, v110, v111, v112, v113, v114, v115, v116, v117, v118, v119, v120, v121, v122, v123, v124, v125, v126, v127, v128, v129, v130, v131, v132, v133, v134, v135, v136, v137, v138, v139, v140, v141, v142, v143, v144, v145, v146, v147, v148, v149, v150, v151, v152, v153, v154, v155, v156, v157, v158, v159, v160, v161, v162, v163, v164, v165, v166, v167, v168, v169, v170, v171, v172, v173, v174, v175, v176, v177, v178, v179, v180, v181, v182, v183, v184, v185, v186, v187, v188, v189, v190, v191, v192, v193, v194, v195, v196, v197, v198, v199, v200, v201, v202, v203, v204, v205, v206, v207, v208, v209, v210, v211, v212, v213, v214, v215, v216, v217, v218, v219, v220, v221, v222, v223, v224, v225, v226, v227, v228, v229, v230, v231, v232, v233, v234, v235, v236, v237, v238, v239, v240, v241, v242, v243, v244, v245, v246, v247, v248, v249, v250, v251, v252, v253, v254, v255, v256, v257, v258, v259, v260, v261, v262, v263, v264, v265, v266, v267, v268, v269, v270, v271, v272, v273, v274, v275, v276, v277, v278, v279, v280, v281, v282, v283, v284, v285, v286, v287, v288, v289, u290, u291, u292, u293, u294, u295, u296, u297, u298, u299, u300, u301, u302, u303, u304, u305, u306, u307, u308, u309, u310, u311, u312, u313, u314, u315, u316, u317, u318, u319, u320, u321, u322, u323, u324, u325, u326, u327, u328, u329, u330, u331, u332, u333, u334, u335, u336, u337, u338, u339, u340, u341, u342, u343, u344, u345, u346, u347, u348, u349, u350, u351, u352, u353, u354, u355, u356, u357, u358, u359, u360, u361, u362, u363, u364, u365, u366, u367, u368, u369, u370, u371, u372, u373, u374, u375, u376, u377, u378, u379, u380, u381, u382, u383, u384, u385, u386, u387, u388, u389, u390, u391, u392, u393, u394, u395, u396, u397, u398, u399, u400, u401, u402, u403, u404, v405, v406, v407, v408, v409, v410, v411, v412, v413, v414, v415, v416, v417, v418, v419, v420, v421, v422, v423, v424, v425, v426, v427, v428, v429, v430, v431, v432, v433, v434, v435, v436, v437, v438, v439, v440, v441, v442, v443, v444, v445, v446, v447, v448, v449, v450, v451, v452, v453, v454, v455, v456, v457, v458, v459, v460, v461, v462, v463, v464, v465, v466, v467, v468, v469, v470, v471, v472, v473, v474, v475, v476, v477, v478, v479, v480, v481, v482, v483, v484, v485, v486, v487, v488, v489, v490, v491, v492, v493, v494, v495, v496, v497, v498, v499, v500, v501, v502, v503, v504, v505, v506, v507, v508, v509, v510, v511, v512, v513, v514, v515, v516, v517, v518, v519, v520, v521, v522, v523, v524, v525, v526, v527, v528, v529, v530, v531, v532, v533, v534, v535, v536, v537, v538, v539, v540, v541, v542, v543, v544, v545, v546, v547, v548, v549, v550, v551, v552, v553, v554, v555, v556, v557, v558, v559, v560, v561, v562, v563, v564, v565, v566, v567, v568, v569, v570, v571, v572, v573, v574, v575, v576, v577, v578, v579, v580, v581, v582, v583, v584, v585, v586, v587, v588, v589, v590, v591, v592, v593, v594, v595, v596, v597, v598, v599, v600, v601, v602, v603, v604, v605, v606, v607, v608, v609, v610, v611, v612, v613, v614, v615, v616, v617, v618, v619, v620, v621, v622, v623, v624, v625, v626, v627, v628, v629, v630, v631, v632, v633, v634, v635, v636, v637, v638, v639, v640, v641, v642, v643, v644, v645, v646, v647, v648, v649, v650, v651, v652, v653, v654, v655, v656, v657, v658, v659, v660, v661, v662, v663, v664, v665, v666, v667, v668, v669, v670, v671, v672, v673, v674, v675, v676, v677, v678, v679, v680, v681, v682, v683, v684, v685, v686], []⟩ w' ∧ Q (.exit 16) ⟨#[.int .u64 sf, v1, .slice uao unm.length ucap, .int .u64 us, .slice qao pairs.length qcap, v5, v6, v7, v8, v9, v10, v11, v12, v13, .slice pa ps.length pc, v15, v16, v17, v18, v19, .slice sa ids.length sc, v21, v22, v23, v24, v25, v26, v27, v28, v29, .slice (some ⟨mb, 0, none⟩) n mcap, v31, v32, v33, v34, v35, x36, x37, .int .i64 (k : Int), .pointer (some ⟨eb, 0, none⟩), .int .u64 nme, u41, u42, u43, v44, u45, u46, v47, v48, v49, v50, v51, v52, v53, v54, v55, v56, v57, v58, v59, v60, v61, v62, v63, v64, v65, v66, v67, v68, v69, v70, v71, v72, v73, v74, v75, v76, v77, v78, v79, v80, v81, v82, v83, v84, v85, v86, v87, v88, v89, v90, v91, v92, v93, v94, v95, v96, v97, v98, v99, v100, v101, v102, v103, v104, v105, v106, v107, v108, v109, v110, v111, v112, v113, v114, v115, v116, v117, v118, v119, v120, v121, v122, v123, v124, v125, v126, v127, v128, v129, v130, v131, v132, v133, v134, v135, v136, v137, v138, v139, v140, v141, v142, v143, v144, v145, v146, v147, v148, v149, v150, v151, v152, v153, v154, v155, v156, v157, v158, v159, v160, v161, v162, v163, v164, v165, v166, v167, v168, v169, v170, v171, v172, v173, v174, v175, v176, v177, v178, v179, v180, v181, v182, v183, v184, v185, v186, v187, v188, v189, v190, v191, v192, v193, v194, v195, v196, v197, v198, v199, v200, v201, v202, v203, v204, v205, v206, v207, v208, v209, v210, v211, v212, v213, v214, v215, v216, v217, v218, v219, v220, v221, v222, v223, v224, v225, v226, v227, v228, v229, v230, v231, v232, v233, v234, v235, v236, v237, v238, v239, v240, v241, v242, v243, v244, v245, v246, v247, v248, v249, v250, v251, v252, v253, v254, v255, v256, v257, v258, v259, v260, v261, v262, v263, v264, v265, v266, v267, v268, v269, v270, v271, v272, v273, v274, v275, v276, v277, v278, v279, v280, v281, v282, v283, v284, v285, v286, v287, v288, v289, u290, u291, u292, u293, u294, u295, u296, u297, u298, u299, u300, u301, u302, u303, u304, u305, u306, u307, u308, u309, u310, u311, u312, u313, u314, u315, u316, u317, u318, u319, u320, u321, u322, u323, u324, u325, u326, u327, u328, u329, u330, u331, u332, u333, u334, u335, u336, u337, u338, u339, u340, u341, u342, u343, u344, u345, u346, u347, u348, u349, u350, u351, u352, u353, u354, u355, u356, u357, u358, u359, u360, u361, u362, u363, u364, u365, u366, u367, u368, u369, u370, u371, u372, u373, u374, u375, u376, u377, u378, u379, u380, u381, u382, u383, u384, u385, u386, u387, u388, u389, u390, u391, u392, u393, u394, u395, u396, u397, u398, u399, u400, u401, u402, u403, u404, v405, v406, v407, v408, v409, v410, v411, v412, v413, v414, v415, v416, v417, v418, v419, v420, v421, v422, v423, v424, v425, v426, v427, v428, v429, v430, v431, v432, v433, v434, v435, v436, v437, v438, v439, v440, v441, v442, v443, v444, v445, v446, v447, v448, v449, v450, v451, v452, v453, v454, v455, v456, v457, v458, v459, v460, v461, v462, v463, v464, v465, v466, v467, v468, v469, v470, v471, v472, v473, v474, v475, v476, v477, v478, v479, v480, v481, v482, v483, v484, v485, v486, v487, v488, v489, v490, v491, v492, v493, v494, v495, v496, v497, v498, v499, v500, v501, v502, v503, v504, v505, v506, v507, v508, v509, v510, v511, v512, v513, v514, v515, v516, v517, v518, v519, v520, v521, v522, v523, v524, v525, v526, v527, v528, v529, v530, v531, v532, v533, v534, v535, v536, v537, v538, v539, v540, v541, v542, v543, v544, v545, v546, v547, v548, v549, v550, v551, v552, v553, v554, v555, v556, v557, v558, v559, v560, v561, v562, v563, v564, v565, v566, v567, v568, v569, v570, v571, v572, v573, v574, v575, v576, v577, v578, v579, v580, v581, v582, v583, v584, v585, v586, v587, v588, v589, v590, v591, v592, v593, v594, v595, v596, v597, v598, v599, v600, v601, v602, v603, v604, v605, v606, v607, v608, v609, v610, v611, v612, v613, v614, v615, v616, v617, v618, v619, v620, v621, v622, v623, v624, v625, v626, v627, v628, v629, v630, v631, v632, v633, v634, v635, v636, v637, v638, v639, v640, v641, v642, v643, v644, v645, v646, v647, v648, v649, v650, v651, v652, v653, v654, v655, v656, v657, v658, v659, v660, v661, v662, v663, v664, v665, v666, v667, v668, v669, v670, v671, v672, v673, v674, v675, v676, v677, v678, v679, v680, v681, v682, v683, v684, v685, v686], []⟩ w')
    (code : Code) (hc : Yba.f3.body.bind (findS 70) = some code) :
    Code.wp Yba.prog code (PQ Q) ⟨#[.int .u64 sf, v1, .slice uao unm.length ucap, .int .u64 us, .slice qao pairs.length qcap, v5, v6, v7, v8, v9, v10, v11, v12, v13, .slice pa ps.length pc, v15, v16, v17, v18, v19, .slice sa ids.length sc, v21, v22, v23, v24, v25, v26, v27, v28, v29, .slice (some ⟨mb, 0, none⟩) n mcap, v31, v32, v33, v34, v35, vser, vwant, .int .i64 (k : Int), .pointer (some ⟨eb, 0, none⟩), .int .u64 nme, v41, v42, v43, v44, v45, v46, v47, v48, v49, v50, v51, v52, v53, v54, v55, v56, v57, v58, v59, v60, v61, v62, v63, v64, v65, v66, v67, v68, v69, v70, v71, v72, v73, v74, v75, v76, v77, v78, v79, v80, v81, v82, v83, v84, v85, v86, v87, v88, v89, v90, v91, v92, v93, v94, v95, v96, v97, v98, v99, v100, v101, v102, v103, v104, v105, v106, v107, v108, v109, v110, v111, v112, v113, v114, v115, v116, v117, v118, v119, v120, v121, v122, v123, v124, v125, v126, v127, v128, v129, v130, v131, v132, v133, v134, v135, v136, v137, v138, v139, v140, v141, v142, v143, v144, v145, v146, v147, v148, v149, v150, v151, v152, v153, v154, v155, v156, v157, v158, v159, v160, v161, v162, v163, v164, v165, v166, v167, v168, v169, v170, v171, v172, v173, v174, v175, v176, v177, v178, v179, v180, v181, v182, v183, v184, v185, v186, v187, v188, v189, v190, v191, v192, v193, v194, v195, v196, v197, v198, v199, v200, v201, v202, v203, v204, v205, v206, v207, v208, v209, v210, v211, v212, v213, v214, v215, v216, v217, v218, v219, v220, v221, v222, v223, v224, v225, v226, v227, v228, v229, v230, v231, v232, v233, v234, v235, v236, v237, v238, v239, v240, v241, v242, v243, v244, v245, v246, v247, v248, v249, v250, v251, v252, v253, v254, v255, v256, v257, v258, v259, v260, v261, v262, v263, v264, v265, v266, v267, v268, v269, v270, v271, v272, v273, v274, v275, v276, v277, v278, v279, v280, v281, v282, v283, v284, v285, v286, v287, v288, v289, v290, v291, v292, v293, v294, v295, v296, v297, v298, v299, v300, v301, v302, v303, v304, v305, v306, v307, v308, v309, v310, v311, v312, v313, v314, v315, v316, v317, v318, v319, v320, v321, v322, v323, v324, v325, v326, v327, v328, v329, v330, v331, v332, v333, v334, v335, v336, v337, v338, v339, v340, v341, v342, v343, v344, v345, v346, v347, v348, v349, v350, v351, v352, v353, v354, v355, v356, v357, v358, v359, v360, v361, v362, v363, v364, v365, v366, v367, v368, v369, v370, v371, v372, v373, v374, v375, v376, v377, v378, v379, v380, v381, v382, v383, v384, v385, v386, v387, v388, v389, v390, v391, v392, v393, v394, v395, v396, v397, v398, v399, v400, v401, v402, v403, v404, v405, v406, v407, v408, v409, v410, v411, v412, v413, v414, v415, v416, v417, v418, v419, v420, v421, v422, v423, v424, v425, v426, v427, v428, v429, v430, v431, v432, v433, v434, v435, v436, v437, v438, v439, v440, v441, v442, v443, v444, v445, v446, v447, v448, v449, v450, v451, v452, v453, v454, v455, v456, v457, v458, v459, v460, v461, v462, v463, v464, v465, v466, v467, v468, v469, v470, v471, v472, v473, v474, v475, v476, v477, v478, v479, v480, v481, v482, v483, v484, v485, v486, v487, v488, v489, v490, v491, v492, v493, v494, v495, v496, v497, v498, v499, v500, v501, v502, v503, v504, v505, v506, v507, v508, v509, v510, v511, v512, v513, v514, v515, v516, v517, v518, v519, v520, v521, v522, v523, v524, v525, v526, v527, v528, v529, v530, v531, v532, v533, v534, v535, v536, v537, v538, v539, v540, v541, v542, v543, v544, v545, v546, v547, v548, v549, v550, v551, v552, v553, v554, v555, v556, v557, v558, v559, v560, v561, v562, v563, v564, v565, v566, v567, v568, v569, v570, v571, v572, v573, v574, v575, v576, v577, v578, v579, v580, v581, v582, v583, v584, v585, v586, v587, v588, v589, v590, v591, v592, v593, v594, v595, v596, v597, v598, v599, v600, v601, v602, v603, v604, v605, v606, v607, v608, v609, v610, v611, v612, v613, v614, v615, v616, v617, v618, v619, v620, v621, v622, v623, v624, v625, v626, v627, v628, v629, v630, v631, v632, v633, v634, v635, v636, v637, v638, v639, v640, v641, v642, v643, v644, v645, v646, v647, v648, v649, v650, v651, v652, v653, v654, v655, v656, v657, v658, v659, v660, v661, v662, v663, v664, v665, v666, v667, v668, v669, v670, v671, v672, v673, v674, v675, v676, v677, v678, v679, v680, v681, v682, v683, v684, v685, v686], []⟩ w := by
  cases hc
  conv => arg 2; whnf
  have HQ := show Hid _ from hQ
  have HNm : Hid (Env.name ⟨eo, ei, es⟩ = nme) := hnme
  have HB : Hid (Below X.heap.size X w) := hb
  have HU : Hid (In E64 X W.heap.size uao unm) := hu
  have HPr : Hid (In EP X W.heap.size qao pairs) := hq
  have HPs : Hid (In E45 X X.heap.size pa (ps.map mpOf)) := hps
  have HSo : Hid (In E45 X X.heap.size sa Ms) := hs
  have HM : Hid (SortM Ms ids ps sf) := hM
  have HSer : Hid (Ser w X.heap.size vser S) := hSer
  have HKey : Hid (S.map keyS = T) := hKey
  have HG : Hid (Got w X.heap.size vwant G) := hG
  have HIl : Hid (∀ t ∈ T, t.2.2.length ≤ 2000) := hIl
  have HEb : Hid ((∃ cur, w.heap[eb]? = some (.cells cur 56 (0, 0))) ∧ w.cell? ⟨eb, 0, none⟩ = some (.int .u64 eo) ∧ w.cell? ⟨eb, 2, none⟩ = some (.int .u64 es)) := ⟨heb, he0, hes⟩
  have HMm : Hid (X.cell? ⟨mb, k, none⟩ = some (.slice mo ml mc)) := hmm
  have i1 : (k : Int) < (n : Int) := by omega
  have hXw : X.heap.size ≤ w.heap.size := hb.size
  have lebw : eb < w.heap.size := World.block_lt_of_cell? w _ he0
  have hidl : ids.length = Ms.length := by rw [hM.ids, List.length_map]
  have HIdl : Hid (ids.length = Ms.length) := hidl
  have hml1 : Ms.length ≤ ids.length := Nat.le_of_eq hidl.symm
  have hml2 : ids.length ≤ Ms.length := Nat.le_of_eq hidl
  clear hnme hb hu hq hps hs hM hSer hKey hG hIl heb hmm hQ hes hidl
  refine wp_seq_k ?_
  intro K hK
  have HK := show Hid _ from hK
  clear hK
  by_cases ho : eo = sf
  · have hob : (eo == sf) = true := by simpa using ho
    have HO : Hid (eo = sf) := ho
    clear ho
    have x2 := HEb.out.2.2
    go_wp2_with fail
    have HUp : Hid (Calls Yba.prog 8 #[.int .u64 sf, .int .u64 us, .slice qao pairs.length qcap, .int .u64 nme] w.drew fun e w' => e = .returned (.int .u64 (upF sf us pairs nme)) ∧ Below w.heap.size w w') := (mUp_any (w := w.drew) sf us pairs nme (HPr.out.later ((below_drewN HB.out 1).mono hWX)) (by show W.heap.size ≤ w.heap.size; omega) (by omega)).mono (fun e w' h => ⟨h.1, (below_drewN (Below.refl _ _) 1 : Below w.heap.size w w.drew).trans h.2⟩)
    go_region_with (
      (go_at_call 8
       refine HUp.out.mono ?_
       rintro e w2 ⟨rfl, hb2⟩
       have HB2 : Hid (Below w.heap.size w w2) := hb2
       have y2 := (HB2.out.cell (p := ⟨eb, 2, none⟩) lebw).trans HEb.out.2.2
       clear hb2))
    all_goals
      have HSt := show Hid _ from step_self (ps := ps) (unm := unm) (ids := ids) (up := upF sf us pairs) (T := T) (G := G) (e := ⟨eo, ei, es⟩) (g := ⟨mo, ml, mc⟩) HO.out
      by_cases hle : es ≤ upF sf us pairs nme
      · have hleb : decide (es ≤ upF sf us pairs nme) = true := decide_eq_true hle
        have HT : Hid (stepT ps unm ids sf (upF sf us pairs) T (⟨eo, ei, es⟩, ⟨mo, ml, mc⟩) = putT (S.map keyS) (-1) nme ⟨es, mo, ml, mc, sf⟩) := by
          show _ = _
          rw [HSt.out.1]
          simp only [HNm.out]
          rw [if_pos hle, HKey.out]
          rfl
        have HPut : Hid (Calls Yba.prog 9 #[vser, .int .i64 (-1), .int .u64 nme, .agg #[.int .u64 es, .slice mo ml mc, .int .u64 sf]] w2.drew fun e w' => ∃ v' S', e = .returned v' ∧ Ser w' X.heap.size v' S' ∧ S'.map keyS = putT (S.map keyS) (-1) nme ⟨es, mo, ml, mc, sf⟩ ∧ Below X.heap.size w2.drew w' ∧ TOnly 70 w2.drew w') := put_any w2.drew X.heap.size vser S (-1) nme ⟨es, mo, ml, mc, sf⟩ (serLater HSer.out (HB2.out.trans (below_drewN (Below.refl _ _) 1))) (Nat.le_trans hXw HB2.out.size) (by omega) (fun r hr => Nat.le_trans (HIl.out (keyS r) (by rw [← HKey.out]; exact List.mem_map.2 ⟨r, hr, rfl⟩)) (by omega))
        have hmm1 : w2.drew.cell? ⟨mb, k, none⟩ = some (.slice mo ml mc) := ((HB.out.trans (HB2.out.mono hXw)).cell (p := ⟨mb, k, none⟩) hml).trans HMm.out
        have y2' : w2.drew.cell? ⟨eb, 2, none⟩ = some (.int .u64 es) := y2
        clear hle
        rw [hleb]
        go_wp2_with fail
        refine region_tail2 10 (by kernel_rfl) ?_
        intro KK hKK
        simp only [List.take_succ_cons, List.take_zero]
        repeat (refine wpStill_want rfl (fun K hK => ?_); go_simp; refine hK _ ?_; clear hK K)
        refine wpStill_nil ?_
        refine hKK _ ?_
        clear hKK KK
        simp only [List.drop_succ_cons, List.drop_zero]
        refine wpList_want rfl (fun K hK => ?_)
        go_simp
        refine HPut.out.mono ?_
        rintro e w3 ⟨v3, S3, rfl, hall⟩
        have HAll := show Hid _ from hall
        clear hall
        refine hK _ _ ?_
        clear hK K
        go_wp2_with fail
        have hbw := HB2.out.trans (below_drewN (Below.refl _ _) 1)
        exact (HQ.out _ _ _ _ _ _ _ _ _ _ _ _ _ _ _ _ _ _ _ _ _ _ _ _ _ _ _ _ _ _ _ _ _ _ _ _ _ _ _ _ _ _ _ _ _ _ _ _ _ _ _ _ _ _ _ _ _ _ _ _ _ _ _ _ _ _ _ _ _ _ _ _ _ _ _ _ _ _ _ _ _ _ _ _ _ _ _ _ _ _ _ _ _ _ _ _ _ _ _ _ _ _ _ _ _ _ _ _ _ _ _ _ _ _ _ _ _ _ _ _ v3 vwant w3 S3 HAll.out.1 (by rw [HT.out]; exact HAll.out.2.1) (by rw [HSt.out.2]; exact (HG.out.later hbw).tonly (by decide) (by decide) HAll.out.2.2.2) ((HB.out.trans (hbw.mono hXw)).trans HAll.out.2.2.1)).2
      · have hleb : decide (es ≤ upF sf us pairs nme) = false := decide_eq_false hle
        have HT : Hid (stepT ps unm ids sf (upF sf us pairs) T (⟨eo, ei, es⟩, ⟨mo, ml, mc⟩) = T) := by
          show _ = _
          rw [HSt.out.1]
          simp only [HNm.out]
          rw [if_neg hle]
        clear hle
        rw [hleb]
        go_wp2_with fail
        exact (HQ.out _ _ _ _ _ _ _ _ _ _ _ _ _ _ _ _ _ _ _ _ _ _ _ _ _ _ _ _ _ _ _ _ _ _ _ _ _ _ _ _ _ _ _ _ _ _ _ _ _ _ _ _ _ _ _ _ _ _ _ _ _ _ _ _ _ _ _ _ _ _ _ _ _ _ _ _ _ _ _ _ _ _ _ _ _ _ _ _ _ _ _ _ _ _ _ _ _ _ _ _ _ _ _ _ _ _ _ _ _ _ _ _ _ _ _ _ _ _ _ _ vser vwant w2 S (serLater HSer.out HB2.out) (by rw [HT.out]; exact HKey.out) (by rw [HSt.out.2]; exact HG.out.later HB2.out) (HB.out.trans (HB2.out.mono hXw))).2
  · have hob : (eo == sf) = false := by simpa using ho
    have HO : Hid (¬ eo = sf) := ho
    clear ho
    go_wp2_with fail
    refine HK.out _ _ ?_
    clear HK K hob
    refine wp_seq_k ?_
    intro K hK
    have HK := show Hid _ from hK
    clear hK
    go_wp2_with fail
    refine HK.out _ _ ?_
    clear HK K
    refine wp_seq_k ?_
    intro K hK
    have HK := show Hid _ from hK
    clear hK
    go_wp2_with fail
    clear he0
    go_loopw [41, 315] (fun jv ix wr => ∃ j : Nat, j ≤ ps.length ∧ jv = .int .i64 (-1) ∧ ix = .int .i64 j ∧ Below w.heap.size w wr ∧ ∀ (i : Nat) p, i < j → ps[i]? = some p → ¬ p.id = eo) (fun _ ix _ => ps.length - (intOf ix).toNat)
    case atStart => exact ⟨0, Nat.zero_le _, rfl, rfl, Below.refl _ _, fun i p hi => by omega⟩
    case round =>
      obtain ⟨j, hj, rfl, rfl, hb4, hno4⟩ := hrel
      have HB4 : Hid (Below w.heap.size w wr) := hb4
      have HN4 : Hid (∀ (i : Nat) p, i < j → ps[i]? = some p → ¬ p.id = eo) := hno4
      have x0 := (hb4.cell (p := ⟨eb, 0, none⟩) lebw).trans HEb.out.2.1
      clear hb4 hno4
      by_cases hjl : j < ps.length
      · obtain ⟨p, hp⟩ : ∃ p, ps[j]? = some p := ⟨_, List.getElem?_eq_getElem hjl⟩
        obtain ⟨b4, o4, rfl, hbl4, hc4⟩ := HPs.out (by simp; omega)
        have HPc := show Hid _ from psCells hbl4 hc4
        obtain ⟨d0, _, _⟩ := HPc.out j p hp wr (HB.out.trans (HB4.out.mono hXw))
        have HJ4 : Hid (ps[j]? = some p ∧ j < ps.length) := ⟨hp, hjl⟩
        have i2 : (j : Int) < (ps.length : Int) := by omega
        clear hc4 hp
        by_cases c1 : p.id = eo
        · have c1b : (p.id == eo) = true := by simpa using c1
          have hpg : ps[j] = p := by have e := HJ4.out.1; rw [List.getElem?_eq_getElem hjl] at e; injection e
          have HFi : Hid (ps.find? (fun p => p.id == eo) = some p ∧ ps.findIdx (fun p => p.id == eo) = j) := by
            have h1 : ps.findIdx? (fun p => p.id == eo) = some j := by
              rw [List.findIdx?_eq_some_iff_getElem]
              refine ⟨hjl, by rw [hpg]; exact c1b, fun i hi => ?_⟩
              have := HN4.out i _ hi (List.getElem?_eq_getElem (by omega))
              simpa using this
            refine ⟨?_, (List.findIdx?_eq_some_iff_findIdx_eq.1 h1).2⟩
            rw [List.find?_eq_some_iff_getElem]
            refine ⟨c1b, j, hjl, hpg, fun i hi => ?_⟩
            have := HN4.out i _ hi (List.getElem?_eq_getElem (by omega))
            simpa using this
          clear c1 hjl hpg
          go_wp2_with fail
          go_quiet (fail)
          generalize hwq : wr.drewN _ = wq
          have HBq : Hid (Below w.heap.size w wq) := by subst hwq; exact below_drewN HB4.out _
          clear hwq x0 d0
          go_wp2_with fail
          refine HK.out _ _ ?_
          have hjn : decide ((j : Int) < 0) = false := decide_eq_false (by omega)
          refine wp_seq_k ?_
          intro K hK
          have HK := show Hid _ from hK
          clear hK
          go_wp2_with fail
          refine HK.out _ _ ?_
          clear HK K
          refine wp_seq_k ?_
          intro K hK
          have HK := show Hid _ from hK
          clear hK
          go_wp2_with fail
          refine HK.out _ _ ?_
          clear HK K
          obtain ⟨w5, hw5⟩ : ∃ w5, w5 = wq := ⟨_, rfl⟩
          subst hw5
          have hw5 : w.heap.size ≤ w5.heap.size := HBq.out.size
          have HX5 : Hid (Below X.heap.size X w5) := HB.out.trans (HBq.out.mono hXw)
          refine wp_seq_k ?_
          intro K hK
          have HK := show Hid _ from hK
          clear hK
          go_wp2_with fail
          go_loopw [43, 332] (fun tv ix wr => ∃ i : Nat, i ≤ Ms.length ∧ ix = .int .i64 i ∧ Sl E64 22 wr w5.heap.size tv (((Ms.take i).filter (toB nme es)).map (·.id)) ∧ Below w5.heap.size w5 wr) (fun _ ix _ => Ms.length - (intOf ix).toNat)
          case atStart => exact ⟨0, Nat.zero_le _, rfl, Sl.nil _ _, Below.refl _ _⟩
          case round =>
            obtain ⟨i, hi, rfl, hsl, hb6⟩ := hrel
            have HSl : Hid (Sl E64 22 wr w5.heap.size u43 (((Ms.take i).filter (toB nme es)).map (·.id))) := hsl
            have HB6 : Hid (Below w5.heap.size w5 wr) := hb6
            have h56 : w5.heap.size ≤ wr.heap.size := hb6.size
            have HXr : Hid (Below X.heap.size X wr) := HX5.out.trans (hb6.mono HX5.out.size)
            have HBw : Hid (Below w.heap.size w wr) := HBq.out.trans (hb6.mono HBq.out.size)
            have x2 := (HBw.out.cell (p := ⟨eb, 2, none⟩) lebw).trans HEb.out.2.2
            clear hsl hb6
            by_cases hil6 : i < Ms.length
            · obtain ⟨b7, o7, rfl, hbl7, hc7⟩ := HSo.out (by omega)
              obtain ⟨⟨qid, qst, qsi⟩, hq⟩ : ∃ q, Ms[i]? = some q := ⟨_, List.getElem?_eq_getElem hil6⟩
              have d0 := (HXr.out.cell (p := ⟨b7, o7 + (i * E45.s + 0), none⟩) hbl7).trans (hc7 i _ hq 0 _ rfl)
              have d1 := (HXr.out.cell (p := ⟨b7, o7 + (i * E45.s + 1), none⟩) hbl7).trans (hc7 i _ hq 1 _ rfl)
              have d2 := (HXr.out.cell (p := ⟨b7, o7 + (i * E45.s + 2), none⟩) hbl7).trans (hc7 i _ hq 2 _ rfl)
              simp only [E45, Nat.add_zero, ← Nat.add_assoc] at d0 d1 d2
              have HFt : Hid (((Ms.take (i + 1)).filter (toB nme es)).map (·.id) = ((Ms.take i).filter (toB nme es)).map (·.id) ++ (if toB nme es ⟨qid, qst, qsi⟩ = true then [qid] else [])) := by
                show _ = _
                rw [List.take_add_one, hq, List.filter_append, List.map_append]
                congr 1
                simp only [Option.toList_some, List.filter_cons, List.filter_nil]
                cases toB nme es ⟨qid, qst, qsi⟩ <;> rfl
              have HJ : Hid (i < Ms.length) := hil6
              have i3 : (i : Int) < (ids.length : Int) := by omega
              have x2' : ∀ o, (wr.alloc o).cell? ⟨eb, 2, none⟩ = some (.int .u64 es) := fun o => (World.cell?_of_block (w := wr) (Deep.blk_alloc_lt wr o eb (by omega))).trans x2
              have hfl : (((Ms.take i).filter (toB nme es)).map (·.id)).length ≤ 2000 := by
                rw [List.length_map]
                exact Nat.le_trans (List.length_filter_le _ _) (by simp; omega)
              clear hc7 hq hil6 x2
              cases htb : toB nme es ⟨qid, qst, qsi⟩ with
              | true =>
                have htb' := htb
                simp only [toB, Bool.and_eq_true, decide_eq_true_eq] at htb'
                have q1 : (qid != nme) = true := htb'.1.1
                have q2 : (qst != 2) = true := htb'.1.2
                have q3 : decide (es > 0) = true := decide_eq_true htb'.2
                have HF2 : Hid (((Ms.take (i + 1)).filter (toB nme es)).map (·.id) = ((Ms.take i).filter (toB nme es)).map (·.id) ++ [qid]) := by show _ = _; rw [HFt.out, if_pos htb]
                obtain ⟨wk, hwk⟩ : ∃ wk, wk = wr.alloc (.cells #[.int .u64 qid, .int .u8 qst, .int .u64 qsi] 45) := ⟨_, rfl⟩
                have hbk : Below wr.heap.size wr wk := by rw [hwk]; exact nb (Below.refl _ _) (Nat.le_refl _) _
                have hszk : wk.heap.size = wr.heap.size + 1 := by rw [hwk]; simp
                obtain ⟨v', w', hrun, hS, hg', _⟩ := (HSl.out.later hbk).push (T := 24) Yba.underlying24 info22 rfl (by decide) (by omega) (by omega) (by decide) qid #[.int .u64 qid] rfl
                have HS' : Hid (Sl E64 22 w' w5.heap.size v' (((Ms.take i).filter (toB nme es)).map (·.id) ++ [qid])) := hS
                have HB' : Hid (Below w5.heap.size w5 w') := (HB6.out.trans (hbk.mono h56)).trans (grown_below hg' (fun i hi => (HSl.out.lt hi).1) (by omega))
                rw [hszk, hwk] at hrun
                clear hS hg' hbk hwk hszk htb htb'
                go_wp2_with (at_builtin; refine wpList_append_run 24 hrun rfl _ _ rfl rfl rfl rfl ?_)
                go_roundw
                case rel => exact ⟨i + 1, by have := HJ.out; omega, by go_num, by rw [HF2.out]; exact HS'.out, HB'.out⟩
                case measure => have := HJ.out; simp [intOf]; omega
              | false =>
                have HF2 : Hid (((Ms.take (i + 1)).filter (toB nme es)).map (·.id) = ((Ms.take i).filter (toB nme es)).map (·.id)) := by show _ = _; rw [HFt.out, htb]; simp
                by_cases q1 : qid = nme
                · have q1b : (qid != nme) = false := by simpa using q1
                  clear q1 htb
                  go_wp2_with fail
                  go_roundw
                  case rel => exact ⟨i + 1, by have := HJ.out; omega, by go_num, by rw [HF2.out]; exact HSl.out.later (nb (Below.refl _ _) (Nat.le_refl _) _), nb HB6.out (Nat.le_refl _) _⟩
                  case measure => have := HJ.out; simp [intOf]; omega
                · have q1b : (qid != nme) = true := by simpa using q1
                  by_cases q2 : qst = 2
                  · have q2b : (qst != 2) = false := by simpa using q2
                    clear q1 q2 htb
                    go_wp2_with fail
                    go_roundw
                    case rel => exact ⟨i + 1, by have := HJ.out; omega, by go_num, by rw [HF2.out]; exact HSl.out.later (nb (Below.refl _ _) (Nat.le_refl _) _), nb HB6.out (Nat.le_refl _) _⟩
                    case measure => have := HJ.out; simp [intOf]; omega
                  · have q2b : (qst != 2) = true := by simpa using q2
                    have q3 : decide (es > 0) = false := by
                      simp only [toB, q1b, q2b, Bool.true_and] at htb
                      exact htb
                    clear q1 q2 htb
                    go_wp2_with fail
                    go_roundw
                    case rel => exact ⟨i + 1, by have := HJ.out; omega, by go_num, by rw [HF2.out]; exact HSl.out.later (nb (Below.refl _ _) (Nat.le_refl _) _), nb HB6.out (Nat.le_refl _) _⟩
                    case measure => have := HJ.out; simp [intOf]; omega
            · have hin6 : i = Ms.length := by omega
              subst hin6
              clear hil6
              have hsl := HSl.out
              rw [List.take_length] at hsl
              have hto := HM.out.to_eq nme es
              have htl : ((Ms.filter (toB nme es)).map (·.id)).length ≤ 2000 := by
                rw [List.length_map]
                exact Nat.le_trans (List.length_filter_le _ _) (by omega)
              rw [← hto] at hsl htl
              obtain ⟨tt, htt⟩ : ∃ tt, ids.filter (lackId ps nme es sf) = tt := ⟨_, rfl⟩
              rw [htt] at hsl htl
              obtain ⟨ta, tc, hu43, _⟩ := hsl.open
              subst hu43
              have HTt : Hid (Sl E64 22 wr X.heap.size (.slice ta tt.length tc) tt) := hsl.mono (by omega)
              have HSt := show Hid _ from step_some (unm := unm) (up := upF sf us pairs) (T := T) (G := G) (e := ⟨eo, ei, es⟩) (g := ⟨mo, ml, mc⟩) HO.out HFi.out.1 HFi.out.2 (by simp only [HNm.out]; exact htt)
              clear hsl hto htt
              go_wp2_with fail
              refine HK.out _ _ ?_
              refine wp_seq_k ?_
              intro K hK
              have HK := show Hid _ from hK
              clear hK
              obtain ⟨d0, d1, d2⟩ := HPc.out j p HJ4.out.1 wr HXr.out
              have hre := HM.out.reach_eq p
              have HRe : Hid (Calls Yba.prog 10 #[.agg #[.int .u64 p.id, .int .u8 p.st, .int .u64 p.since], .slice sa ids.length sc] wr fun e w' => e = .returned (.bool (reachB ps ids p)) ∧ Below wr.heap.size wr w') := by
                have := mReach_any (cap := sc) (mpOf p) Ms (HSo.out.later HXr.out) HXr.out.size (by omega)
                rw [hre, ← HIdl.out] at this
                exact this
              clear hre
              go_wp2_with fail
              refine HRe.out.mono ?_
              rintro e w7 ⟨rfl, hb7⟩
              have HX7 : Hid (Below X.heap.size X w7) := HXr.out.trans (hb7.mono HXr.out.size)
              have HBw7 : Hid (Below w.heap.size w w7) := HBw.out.trans (hb7.mono HBw.out.size)
              have HTt7 : Hid (Sl E64 22 w7 X.heap.size (.slice ta tt.length tc) tt) := HTt.out.later hb7
              clear hb7 d0 d1 d2
              have heb7 : ∃ cur, w7.heap[eb]? = some (.cells cur 56 (0, 0)) := by
                obtain ⟨cur, hcur⟩ := HEb.out.1
                exact ⟨cur, (HBw7.out.block eb lebw).trans hcur⟩
              have hes7 := (HBw7.out.cell (p := ⟨eb, 2, none⟩) lebw).trans HEb.out.2.2
              cases hrc : reachB ps ids p with
              | false =>
                have HCt : Hid (cutB ps ids sf p tt = false) := by show _ = _; unfold cutB; rw [hrc]; rfl
                clear hrc
                go_wp2_with fail
                refine HK.out _ _ ?_
                refine l89 W X w7 sf unm uao ta ucap tc mb n mcap k eb j nme es tt false mo ml mc vser vwant S T G hWX HX7.out HU.out hul (serLater HSer.out HBw7.out) HKey.out (HG.out.later HBw7.out) hGl HTt7.out htl heb7 hes7 hml HMm.out hkn hSl HIl.out (PQ Q) ?_ _ rfl
                intro u371 u372 u373 u374 u375 u376 u377 u378 u379 u380 u381 u382 u383 u384 u385 u386 u387 u388 u389 u390 u391 u392 u393 u394 u395 u396 u397 u398 u399 u400 u401 u402 u403 u404 x36 x37 w' S' a1 a2 a3 a4
                exact (HQ.out _ _ _ _ _ _ _ _ _ _ _ _ _ _ _ _ _ _ _ _ _ _ _ _ _ _ _ _ _ _ _ _ _ _ _ _ _ _ _ _ _ _ _ _ _ _ _ _ _ _ _ _ _ _ _ _ _ _ _ _ _ _ _ _ _ _ _ _ _ _ _ _ _ _ _ _ _ _ _ _ _ _ _ _ _ _ _ _ _ _ _ _ _ _ _ _ _ _ _ _ _ _ _ _ _ _ _ _ _ _ _ _ _ _ _ _ _ _ _ _ x36 x37 w' S' a1 (by rw [HSt.out.1]; simp only [HNm.out, HCt.out]; exact a2) (by rw [HSt.out.2, HCt.out]; exact a3) a4).1
              | true =>
                by_cases hs0 : sf = 0
                · have hs0b : (sf != 0) = false := by simpa using hs0
                  have HCt : Hid (cutB ps ids sf p tt = false) := by show _ = _; unfold cutB; rw [hrc, hs0b]; rfl
                  clear hrc hs0
                  go_wp2_with fail
                  refine HK.out _ _ ?_
                  refine l89 W X w7 sf unm uao ta ucap tc mb n mcap k eb j nme es tt false mo ml mc vser vwant S T G hWX HX7.out HU.out hul (serLater HSer.out HBw7.out) HKey.out (HG.out.later HBw7.out) hGl HTt7.out htl heb7 hes7 hml HMm.out hkn hSl HIl.out (PQ Q) ?_ _ rfl
                  intro u371 u372 u373 u374 u375 u376 u377 u378 u379 u380 u381 u382 u383 u384 u385 u386 u387 u388 u389 u390 u391 u392 u393 u394 u395 u396 u397 u398 u399 u400 u401 u402 u403 u404 x36 x37 w' S' a1 a2 a3 a4
                  exact (HQ.out _ _ _ _ _ _ _ _ _ _ _ _ _ _ _ _ _ _ _ _ _ _ _ _ _ _ _ _ _ _ _ _ _ _ _ _ _ _ _ _ _ _ _ _ _ _ _ _ _ _ _ _ _ _ _ _ _ _ _ _ _ _ _ _ _ _ _ _ _ _ _ _ _ _ _ _ _ _ _ _ _ _ _ _ _ _ _ _ _ _ _ _ _ _ _ _ _ _ _ _ _ _ _ _ _ _ _ _ _ _ _ _ _ _ _ _ _ _ _ _ x36 x37 w' S' a1 (by rw [HSt.out.1]; simp only [HNm.out, HCt.out]; exact a2) (by rw [HSt.out.2, HCt.out]; exact a3) a4).1
                · have hs0b : (sf != 0) = true := by simpa using hs0
                  by_cases hpos : 0 < tt.length
                  · have hposb : decide ((tt.length : Int) > 0) = true := by simp; omega
                    have HCt : Hid (cutB ps ids sf p tt = true) := by show _ = _; unfold cutB; rw [hrc, hs0b, decide_eq_true hpos]; rfl
                    clear hrc hs0
                    go_wp2_with fail
                    refine HK.out _ _ ?_
                    refine l89 W X w7 sf unm uao ta ucap tc mb n mcap k eb j nme es tt true mo ml mc vser vwant S T G hWX HX7.out HU.out hul (serLater HSer.out HBw7.out) HKey.out (HG.out.later HBw7.out) hGl HTt7.out htl heb7 hes7 hml HMm.out hkn hSl HIl.out (PQ Q) ?_ _ rfl
                    intro u371 u372 u373 u374 u375 u376 u377 u378 u379 u380 u381 u382 u383 u384 u385 u386 u387 u388 u389 u390 u391 u392 u393 u394 u395 u396 u397 u398 u399 u400 u401 u402 u403 u404 x36 x37 w' S' a1 a2 a3 a4
                    exact (HQ.out _ _ _ _ _ _ _ _ _ _ _ _ _ _ _ _ _ _ _ _ _ _ _ _ _ _ _ _ _ _ _ _ _ _ _ _ _ _ _ _ _ _ _ _ _ _ _ _ _ _ _ _ _ _ _ _ _ _ _ _ _ _ _ _ _ _ _ _ _ _ _ _ _ _ _ _ _ _ _ _ _ _ _ _ _ _ _ _ _ _ _ _ _ _ _ _ _ _ _ _ _ _ _ _ _ _ _ _ _ _ _ _ _ _ _ _ _ _ _ _ x36 x37 w' S' a1 (by rw [HSt.out.1]; simp only [HNm.out, HCt.out]; exact a2) (by rw [HSt.out.2, HCt.out]; exact a3) a4).1
                  · have hposb : decide ((tt.length : Int) > 0) = false := decide_eq_false (by omega)
                    have HCt : Hid (cutB ps ids sf p tt = false) := by show _ = _; unfold cutB; rw [hrc, hs0b, decide_eq_false hpos]; rfl
                    clear hrc hs0
                    go_wp2_with fail
                    refine HK.out _ _ ?_
                    refine l89 W X w7 sf unm uao ta ucap tc mb n mcap k eb j nme es tt false mo ml mc vser vwant S T G hWX HX7.out HU.out hul (serLater HSer.out HBw7.out) HKey.out (HG.out.later HBw7.out) hGl HTt7.out htl heb7 hes7 hml HMm.out hkn hSl HIl.out (PQ Q) ?_ _ rfl
                    intro u371 u372 u373 u374 u375 u376 u377 u378 u379 u380 u381 u382 u383 u384 u385 u386 u387 u388 u389 u390 u391 u392 u393 u394 u395 u396 u397 u398 u399 u400 u401 u402 u403 u404 x36 x37 w' S' a1 a2 a3 a4
                    exact (HQ.out _ _ _ _ _ _ _ _ _ _ _ _ _ _ _ _ _ _ _ _ _ _ _ _ _ _ _ _ _ _ _ _ _ _ _ _ _ _ _ _ _ _ _ _ _ _ _ _ _ _ _ _ _ _ _ _ _ _ _ _ _ _ _ _ _ _ _ _ _ _ _ _ _ _ _ _ _ _ _ _ _ _ _ _ _ _ _ _ _ _ _ _ _ _ _ _ _ _ _ _ _ _ _ _ _ _ _ _ _ _ _ _ _ _ _ _ _ _ _ _ x36 x37 w' S' a1 (by rw [HSt.out.1]; simp only [HNm.out, HCt.out]; exact a2) (by rw [HSt.out.2, HCt.out]; exact a3) a4).1
        · have c1b : (p.id == eo) = false := by simpa using c1
          have HC1 : Hid (¬ p.id = eo) := c1
          clear c1 hjl
          go_wp2_with fail
          go_quiet (fail)
          go_wp2_with fail
          go_roundw
          case rel =>
            refine ⟨j + 1, by have := HJ4.out.2; omega, rfl, by go_num, below_drewN HB4.out _, fun i q hi hq => ?_⟩
            rcases Nat.lt_or_ge i j with h | h
            · exact HN4.out i q h hq
            · have : i = j := by omega
              subst this
              rw [HJ4.out.1] at hq
              injection hq with hq
              rw [← hq]; exact HC1.out
          case measure => have := HJ4.out.2; simp [intOf]; omega
      · have hjn : j = ps.length := by omega
        subst hjn
        have HFn : Hid (ps.find? (fun p => p.id == eo) = none) := by
          show _ = _
          rw [List.find?_eq_none]
          intro x hx
          obtain ⟨i, hi, rfl⟩ := List.getElem_of_mem hx
          have := HN4.out i _ hi (List.getElem?_eq_getElem hi)
          simpa using this
        have HSt := show Hid _ from step_none (unm := unm) (ids := ids) (up := upF sf us pairs) (T := T) (G := G) (e := ⟨eo, ei, es⟩) (g := ⟨mo, ml, mc⟩) HO.out HFn.out
        clear hjl
        go_wp2_with fail
        refine HK.out _ _ ?_
        go_wp2_with fail
        exact (HQ.out _ _ _ _ _ _ _ _ _ _ _ _ _ _ _ _ _ _ _ _ _ _ _ _ _ _ _ _ _ _ _ _ _ _ _ _ _ _ _ _ _ _ _ _ _ _ _ _ _ _ _ _ _ _ _ _ _ _ _ _ _ _ _ _ _ _ _ _ _ _ _ _ _ _ _ _ _ _ _ _ _ _ _ _ _ _ _ _ _ _ _ _ _ _ _ _ _ _ _ _ _ _ _ _ _ _ _ _ _ _ _ _ _ _ _ _ _ _ _ _ vser vwant wr S (serLater HSer.out HB4.out) (by rw [HSt.out.1]; exact HKey.out) (by rw [HSt.out.2]; exact HG.out.later HB4.out) (HB.out.trans (HB4.out.mono hXw))).2
end Go.Proofs.Ybulkdkqw.lawS5586AWhole
