import Derived.Test.YbulkdkrkCT14
namespace Go.Proofs.Ybulkdkrk.lawS5587CWhole
open Go.ChangeShapes Go.WideShapes Go.ChangeAt Go.RowKit Go.Proofs.Ybulkdkrk.lawS5587AWhole
set_option linter.unusedVariables false

/-- What is laid out ahead of the tables. -/
structure Pre0 (w0 w : World) (ID : Nat → Int) (Pb q n x : Nat) (X : Int) (cp : Nat) (pC : Nat) (pN pK : Int) (g m : Nat) (cs : Nat → Nat) : Prop where
  bel : Below w0.heap.size w0 w
  lt : x < n
  n8 : n ≤ 8
  pool : Pool w g m cs ID
  p0 : w.cell? ⟨Pb, x * 2, none⟩ = some (.int .u64 X)
  p1 : w.cell? ⟨Pb, x * 2 + 1, none⟩ = some (.float .f64 cp)
  q0 : w.cell? ⟨q, 0, none⟩ = some (.int .u8 (pC : Int))
  q1 : w.cell? ⟨q, 1, none⟩ = some (.int .i64 pN)
  q2 : w.cell? ⟨q, 2, none⟩ = some (.int .i64 pK)
  cB : pC ≤ 255

set_option maxRecDepth 1000000 in
set_option maxHeartbeats 8000000 in
/-- The tables, the two lists. -/
theorem t11 {v0 v1 v2 v3 v6 v10 v11 v12 v13 v14 v15 v17 v18 v19 v20 v22 v23 v28 v29 v30 v31 v32 v33 v34 v35 v36 v37 v38 v39 v40 v41 v42 v43 v44 v45 v46 v47 v48 v49 v50 v51 v52 v53 v54 v55 v56 v57 v58 v59 v60 v61 v62 v63 v64 v65 v66 v67 v68 v69 v70 v71 v72 v73 v74 v75 v76 v77 v78 v79 v80 v81 v82 v83 v84 v85 v86 v87 v88 v89 v90 v91 v92 v93 v94 v95 v96 v97 v98 v99 v100 v101 v102 v103 v104 v105 v106 v107 v108 v109 v110 v111 v112 v113 v114 v115 v116 v117 v118 v119 v120 v121 v122 v123 v124 v125 v126 v127 v128 v129 v130 v131 v132 v133 v134 v135 v136 v137 v138 v139 v140 v141 v142 v143 v144 v145 v146 v147 v148 v149 v150 v151 v152 v153 v154 v155 v156 v157 v158 v159 v160 v161 v162 v163 v164 v165 v166 v167 v168 v169 v170 v171 v172 v173 v174 v175 v176 v177 v178 v179 v180 v181 v182 v183 v184 v185 v186 v187 v188 v189 v190 v191 v192 v193 v194 v195 v196 v197 v198 v199 v200 v201 v202 v203 v204 v205 v206 v207 v208 v209 v210 v211 v212 v213 v214 v215 v216 v217 v218 v219 v220 v221 v222 v223 v224 v225 v226 v227 v228 v229 v230 v231 v232 v233 v234 v235 v236 v237 v238 v239 v240 v241 v242 v243 v244 v245 v246 v247 v248 v249 v250 v251 v252 v253 v254 v255 v256 v257 v258 v259 v260 v261 v262 v263 v264 v265 v266 v267 v268 v269 v270 v271 v272 v273 v274 v275 v276 v277 v278 v279 v280 v281 v282 v283 v284 v285 v286 v287 v288 v289 v290 v291 v292 v293 v294 v295 v296 v297 v298 v299 v300 v301 v302 v303 v304 v305 v306 v307 v308 v309 v310 v311 v312 v313 v314 v315 v316 v317 v318 v319 v320 v321 v322 v323 v324 v325 v326 v327 v328 v329 v330 v331 v332 v333 v334 v335 v336 : Value} (w0 w : World) (ID : Nat → Int) (Pb q n x : Nat) (X : Int) (l cp : Nat) (two ss : Bool) (pC : Nat) (pN pK : Int) (g m cap : Nat) (cs : Nat → Nat) (hR : Pre0 w0 w ID Pb q n x X cp pC pN pK g m cs) (hl : l ≤ 9223372036854775807)
    (hm : m ≤ 65537) (a7 : Option Addr) (n7 c7 b7 o7 : Nat) (C7 : Nat → Nat) (N7 K7 : Nat → Int) (h7 : Src w0 a7 n7 b7 o7 C7 N7 K7) (hn7 : n7 ≤ 65536) (a8 : Option Addr) (n8 c8 b8 o8 : Nat) (C8 : Nat → Nat) (N8 K8 : Nat → Int) (h8 : Src w0 a8 n8 b8 o8 C8 N8 K8) (hn8 : n8 ≤ 65536) (a9 : Option Addr) (n9 c9 b9 o9 : Nat) (C9 : Nat → Nat) (N9 K9 : Nat → Int) (h9 : Src w0 a9 n9 b9 o9 C9 N9 K9) (hn9 : n9 ≤ 65536) (code : Code) (hc : Yba.f4.body.map (tailN 11) = some code) :
    Code.wp Yba.prog code (bodyPost Yba.prog Yba.f4 (fun e w' => e = .returned (.bool true) ∧ Below w0.heap.size w0 w')) ⟨#[v0, v1, v2, v3, .bool two, .bool ss, v6, .slice a7 n7 c7, .slice a8 n8 c8, .slice a9 n9 c9, v10, v11, v12, v13, v14, v15, .pointer (some ⟨q, 0, none⟩), v17, v18, v19, v20, .slice (some ⟨g, 0, none⟩) m cap, v22, v23, .int .i64 n, .int .i64 x, .int .i64 l, .slice (some ⟨Pb, 0, none⟩) n n, v28, v29, v30, v31, v32, v33, v34, v35, v36, v37, v38, v39, v40, v41, v42, v43, v44, v45, v46, v47, v48, v49, v50, v51, v52, v53, v54, v55, v56, v57, v58, v59, v60, v61, v62, v63, v64, v65, v66, v67, v68, v69, v70, v71, v72, v73, v74, v75, v76, v77, v78, v79, v80, v81, v82, v83, v84, v85, v86, v87, v88, v89, v90, v91, v92, v93, v94, v95, v96, v97, v98, v99, v100, v101, v102, v103, v104, v105, v106, v107, v108, v109, v110, v111, v112, v113, v114, v115, v116, v117, v118, v119, v120, v121, v122, v123, v124, v125, v126, v127, v128, v129, v130, v131, v132, v133, v134, v135, v136, v137, v138, v139, v140, v141, v142, v143, v144, v145, v146, v147, v148, v149, v150, v151, v152, v153, v154, v155, v156, v157, v158, v159, v160, v161, v162, v163, v164, v165, v166, v167, v168, v169, v170, v171, v172, v173, v174, v175, v176, v177, v178, v179, v180, v181, v182, v183, v184, v185, v186, v187, v188, v189, v190, v191, v192, v193, v194, v195, v196, v197, v198, v199, v200, v201, v202, v203, v204, v205, v206, v207, v208, v209, v210, v211, v212, v213, v214, v215, v216, v217, v218, v219, v220, v221, v222, v223, v224, v225, v226, v227, v228, v229, v230, v231, v232, v233, v234, v235, v236, v237, v238, v239, v240, v241, v242, v243, v244, v245, v246, v247, v248, v249, v250, v251, v252, v253, v254, v255, v256, v257, v258, v259, v260, v261, v262, v263, v264, v265, v266, v267, v268, v269, v270, v271, v272, v273, v274, v275, v276, v277, v278, v279, v280, v281, v282, v283, v284, v285, v286, v287, v288, v289, v290, v291, v292, v293, v294, v295, v296, v297, v298, v299, v300, v301, v302, v303, v304, v305, v306, v307, v308, v309, v310, v311, v312, v313, v314, v315, v316, v317, v318, v319, v320, v321, v322, v323, v324, v325, v326, v327, v328, v329, v330, v331, v332, v333, v334, v335, v336], []⟩ w := by
  cases hc
  conv => arg 2; whnf
  have HR : Hid (Pre0 w0 w ID Pb q n x X cp pC pN pK g m cs) := hR
  have H7 : Hid (Src w0 a7 n7 b7 o7 C7 N7 K7) := h7
  have H8 : Hid (Src w0 a8 n8 b8 o8 C8 N8 K8) := h8
  have H9 : Hid (Src w0 a9 n9 b9 o9 C9 N9 K9) := h9
  have hmk := makeN n Yba.underlying60 info67 rfl hR.n8 (by decide)
  clear hR h7 h8 h9
  refine wp_seq_k ?_
  intro K hK
  have HK := show Hid _ from hK
  clear hK
  go_wp2_with fail
  clear hmk
  refine HK.out _ _ ?_
  clear HK K
  generalize hw1 : World.alloc _ _ = w1
  have hb1 : Below w.heap.size w w1 := by subst hw1; exact nb (Below.refl _ _) (Nat.le_refl _) _
  have hrow : w1.rowIs w.heap.size 67 (n * 12) (fun i => z12[i % z12.size]!) := by subst hw1; exact rowIs_madeN w z12 (n * 12) 67
  clear hw1
  have HB1 : Hid (Below w.heap.size w w1) := hb1
  have HRow1 : Hid (w1.rowIs w.heap.size 67 (n * 12) (fun i => z12[i % z12.size]!)) := hrow
  have HBel1 : Hid (Below w0.heap.size w0 w1) := HR.out.bel.trans (hb1.mono HR.out.bel.size)
  have HPool1 : Hid (Pool w1 g m cs ID) := HR.out.pool.later hb1
  clear hb1 hrow
  refine wp_seq_k ?_
  intro K hK
  have HK := show Hid _ from hK
  clear hK
  go_wp2_with fail
  refine (build_any ID g m cap cs a7 n7 c7 b7 o7 C7 N7 K7 w1 HPool1.out (H7.out.later HBel1.out) hn7 hm).mono ?_
  rintro e w2 ⟨vS, rfl, hS, hb2⟩
  have HB2 : Hid (Below w1.heap.size w1 w2) := hb2
  have HS2 : Hid (Hs w2 w1.heap.size vS (built m cs C7 N7 K7 n7)) := hS
  have HBel2 : Hid (Below w0.heap.size w0 w2) := HBel1.out.trans (hb2.mono HBel1.out.size)
  have HPool2 : Hid (Pool w2 g m cs ID) := HPool1.out.later hb2
  clear hS hb2
  go_wp2_with fail
  refine HK.out _ _ ?_
  clear HK K
  refine wp_seq_k ?_
  intro K hK
  have HK := show Hid _ from hK
  clear hK
  go_wp2_with fail
  refine (build_any ID g m cap cs a8 n8 c8 b8 o8 C8 N8 K8 w2 HPool2.out (H8.out.later HBel2.out) hn8 hm).mono ?_
  rintro e w3 ⟨vP, rfl, hP, hb3⟩
  have HB3 : Hid (Below w2.heap.size w2 w3) := hb3
  have HP3 : Hid (Hs w3 w2.heap.size vP (built m cs C8 N8 K8 n8)) := hP
  clear hP hb3
  go_wp2_with fail
  refine HK.out _ _ ?_
  have hb13 : Below w1.heap.size w1 w3 := HB2.out.trans (HB3.out.mono HB2.out.size)
  have hb : Below w.heap.size w w3 := HB1.out.trans (hb13.mono HB1.out.size)
  have hr := HR.out
  have lP := World.block_lt_of_cell? w _ hr.p0
  have lq := World.block_lt_of_cell? w _ hr.q0
  have lg := hr.pool.lt
  simp only at lP lq
  have hpre : Pre w0 w3 ID Pb w.heap.size q n x X cp pC pN pK vS vP (built m cs C7 N7 K7 n7) (built m cs C8 N8 K8 n8) g m cs :=
    { bel := hr.bel.trans (hb.mono hr.bel.size)
      lt := hr.lt
      n8 := hr.n8
      pool := hr.pool.later hb
      p0 := (hb.cell (by exact lP)).trans hr.p0
      p1 := (hb.cell (by exact lP)).trans hr.p1
      row := HRow1.out.of_block (hb13.block _ HRow1.out.lt)
      gT := hr.bel.size
      nT := by omega
      nG := by omega
      hS := (HS2.out.later HB3.out).mono HBel1.out.size
      hP := HP3.out.mono HBel2.out.size
      lS := by rw [built_len]; exact hn7
      lP := by rw [built_len]; exact hn8
      q0 := (hb.cell (by exact lq)).trans hr.q0
      q1 := (hb.cell (by exact lq)).trans hr.q1
      q2 := (hb.cell (by exact lq)).trans hr.q2
      ids := fun y hy => by
        rcases List.mem_append.1 hy with h | h
        · exact built_ids (hr.pool.later hb) C7 N7 K7 n7 y h
        · exact built_ids (hr.pool.later hb) C8 N8 K8 n8 y h
      cB := hr.cB }
  exact t14 w0 w3 ID Pb w.heap.size q n x X l cp two ss pC pN pK vS vP _ _ g m cap cs hpre hl hm a9 n9 c9 b9 o9 C9 N9 K9 H9.out hn9 _ rfl

/-- What is laid out ahead of the peers. -/
structure Pre1 (w0 w : World) (ID : Nat → Int) (q n x : Nat) (pC : Nat) (pN pK : Int) (g m : Nat) (cs : Nat → Nat) : Prop where
  bel : Below w0.heap.size w0 w
  lt : x < n
  n8 : n ≤ 8
  pool : Pool w g m cs ID
  q0 : w.cell? ⟨q, 0, none⟩ = some (.int .u8 (pC : Int))
  q1 : w.cell? ⟨q, 1, none⟩ = some (.int .i64 pN)
  q2 : w.cell? ⟨q, 2, none⟩ = some (.int .i64 pK)
  cB : pC ≤ 255

set_option maxRecDepth 1000000 in
set_option maxHeartbeats 8000000 in
/-- The peers. -/
theorem t9 {v0 v1 v2 v3 v6 v10 v11 v12 v13 v14 v15 v17 v18 v19 v20 v22 v23 v27 v28 v29 v30 v31 v32 v33 v34 v35 v36 v37 v38 v39 v40 v41 v42 v43 v44 v45 v46 v47 v48 v49 v50 v51 v52 v53 v54 v55 v56 v57 v58 v59 v60 v61 v62 v63 v64 v65 v66 v67 v68 v69 v70 v71 v72 v73 v74 v75 v76 v77 v78 v79 v80 v81 v82 v83 v84 v85 v86 v87 v88 v89 v90 v91 v92 v93 v94 v95 v96 v97 v98 v99 v100 v101 v102 v103 v104 v105 v106 v107 v108 v109 v110 v111 v112 v113 v114 v115 v116 v117 v118 v119 v120 v121 v122 v123 v124 v125 v126 v127 v128 v129 v130 v131 v132 v133 v134 v135 v136 v137 v138 v139 v140 v141 v142 v143 v144 v145 v146 v147 v148 v149 v150 v151 v152 v153 v154 v155 v156 v157 v158 v159 v160 v161 v162 v163 v164 v165 v166 v167 v168 v169 v170 v171 v172 v173 v174 v175 v176 v177 v178 v179 v180 v181 v182 v183 v184 v185 v186 v187 v188 v189 v190 v191 v192 v193 v194 v195 v196 v197 v198 v199 v200 v201 v202 v203 v204 v205 v206 v207 v208 v209 v210 v211 v212 v213 v214 v215 v216 v217 v218 v219 v220 v221 v222 v223 v224 v225 v226 v227 v228 v229 v230 v231 v232 v233 v234 v235 v236 v237 v238 v239 v240 v241 v242 v243 v244 v245 v246 v247 v248 v249 v250 v251 v252 v253 v254 v255 v256 v257 v258 v259 v260 v261 v262 v263 v264 v265 v266 v267 v268 v269 v270 v271 v272 v273 v274 v275 v276 v277 v278 v279 v280 v281 v282 v283 v284 v285 v286 v287 v288 v289 v290 v291 v292 v293 v294 v295 v296 v297 v298 v299 v300 v301 v302 v303 v304 v305 v306 v307 v308 v309 v310 v311 v312 v313 v314 v315 v316 v317 v318 v319 v320 v321 v322 v323 v324 v325 v326 v327 v328 v329 v330 v331 v332 v333 v334 v335 v336 : Value} (w0 w : World) (ID : Nat → Int) (q n x : Nat) (l : Nat) (two ss : Bool) (pC : Nat) (pN pK : Int) (g m cap : Nat) (cs : Nat → Nat) (hR : Pre1 w0 w ID q n x pC pN pK g m cs) (hl : l ≤ 9223372036854775807)
    (hm : m ≤ 65537) (a7 : Option Addr) (n7 c7 b7 o7 : Nat) (C7 : Nat → Nat) (N7 K7 : Nat → Int) (h7 : Src w0 a7 n7 b7 o7 C7 N7 K7) (hn7 : n7 ≤ 65536) (a8 : Option Addr) (n8 c8 b8 o8 : Nat) (C8 : Nat → Nat) (N8 K8 : Nat → Int) (h8 : Src w0 a8 n8 b8 o8 C8 N8 K8) (hn8 : n8 ≤ 65536) (a9 : Option Addr) (n9 c9 b9 o9 : Nat) (C9 : Nat → Nat) (N9 K9 : Nat → Int) (h9 : Src w0 a9 n9 b9 o9 C9 N9 K9) (hn9 : n9 ≤ 65536) (code : Code) (hc : Yba.f4.body.map (tailN 9) = some code) :
    Code.wp Yba.prog code (bodyPost Yba.prog Yba.f4 (fun e w' => e = .returned (.bool true) ∧ Below w0.heap.size w0 w')) ⟨#[v0, v1, v2, v3, .bool two, .bool ss, v6, .slice a7 n7 c7, .slice a8 n8 c8, .slice a9 n9 c9, v10, v11, v12, v13, v14, v15, .pointer (some ⟨q, 0, none⟩), v17, v18, v19, v20, .slice (some ⟨g, 0, none⟩) m cap, v22, v23, .int .i64 n, .int .i64 x, .int .i64 l, v27, v28, v29, v30, v31, v32, v33, v34, v35, v36, v37, v38, v39, v40, v41, v42, v43, v44, v45, v46, v47, v48, v49, v50, v51, v52, v53, v54, v55, v56, v57, v58, v59, v60, v61, v62, v63, v64, v65, v66, v67, v68, v69, v70, v71, v72, v73, v74, v75, v76, v77, v78, v79, v80, v81, v82, v83, v84, v85, v86, v87, v88, v89, v90, v91, v92, v93, v94, v95, v96, v97, v98, v99, v100, v101, v102, v103, v104, v105, v106, v107, v108, v109, v110, v111, v112, v113, v114, v115, v116, v117, v118, v119, v120, v121, v122, v123, v124, v125, v126, v127, v128, v129, v130, v131, v132, v133, v134, v135, v136, v137, v138, v139, v140, v141, v142, v143, v144, v145, v146, v147, v148, v149, v150, v151, v152, v153, v154, v155, v156, v157, v158, v159, v160, v161, v162, v163, v164, v165, v166, v167, v168, v169, v170, v171, v172, v173, v174, v175, v176, v177, v178, v179, v180, v181, v182, v183, v184, v185, v186, v187, v188, v189, v190, v191, v192, v193, v194, v195, v196, v197, v198, v199, v200, v201, v202, v203, v204, v205, v206, v207, v208, v209, v210, v211, v212, v213, v214, v215, v216, v217, v218, v219, v220, v221, v222, v223, v224, v225, v226, v227, v228, v229, v230, v231, v232, v233, v234, v235, v236, v237, v238, v239, v240, v241, v242, v243, v244, v245, v246, v247, v248, v249, v250, v251, v252, v253, v254, v255, v256, v257, v258, v259, v260, v261, v262, v263, v264, v265, v266, v267, v268, v269, v270, v271, v272, v273, v274, v275, v276, v277, v278, v279, v280, v281, v282, v283, v284, v285, v286, v287, v288, v289, v290, v291, v292, v293, v294, v295, v296, v297, v298, v299, v300, v301, v302, v303, v304, v305, v306, v307, v308, v309, v310, v311, v312, v313, v314, v315, v316, v317, v318, v319, v320, v321, v322, v323, v324, v325, v326, v327, v328, v329, v330, v331, v332, v333, v334, v335, v336], []⟩ w := by
  cases hc
  conv => arg 2; whnf
  have HR : Hid (Pre1 w0 w ID q n x pC pN pK g m cs) := hR
  have H7 : Hid (Src w0 a7 n7 b7 o7 C7 N7 K7) := h7
  have H8 : Hid (Src w0 a8 n8 b8 o8 C8 N8 K8) := h8
  have H9 : Hid (Src w0 a9 n9 b9 o9 C9 N9 K9) := h9
  have hmk := makeN n Yba.underlying57 info56 rfl hR.n8 (by decide)
  have hnn8 := hR.n8
  have hm0 := hR.pool.pos
  have lg := hR.pool.lt
  clear hR h7 h8 h9
  refine wp_seq_k ?_
  intro K hK
  have HK := show Hid _ from hK
  clear hK
  go_wp2_with fail
  clear hmk
  refine HK.out _ _ ?_
  clear HK K
  generalize hw1 : World.alloc _ _ = w1
  have hb1 : Below w.heap.size w w1 := by subst hw1; exact nb (Below.refl _ _) (Nat.le_refl _) _
  have sz1 : w1.heap.size = w.heap.size + 1 := by subst hw1; simp
  have hrow : w1.rowIs w.heap.size 56 (n * 2) (fun i => z2[i % z2.size]!) := by subst hw1; exact rowIs_madeN w z2 (n * 2) 56
  clear hw1
  have HRow1 : Hid (w1.rowIs w.heap.size 56 (n * 2) (fun i => z2[i % z2.size]!)) := hrow
  have HB1 : Hid (Below w.heap.size w w1) := hb1
  clear hrow hb1
  refine wp_seq_k ?_
  intro K hK
  have HK := show Hid _ from hK
  clear hK
  go_wp2_with fail
  go_loopw [97] (fun i wr => ∃ k : Nat, k ≤ n ∧ i = .int .i64 k ∧ Below w.heap.size w wr ∧ ∃ r, wr.rowIs w.heap.size 56 (n * 2) r ∧ ∀ i, i < k → r (i * 2) = .int .u64 (ID (cs (i % m))) ∧ r (i * 2 + 1) = .float .f64 4607182418800017408) (fun i _ => n - (intOf i).toNat)
  case atStart => exact ⟨0, Nat.zero_le _, rfl, HB1.out, _, HRow1.out, fun i hi => by omega⟩
  case round =>
    obtain ⟨k, hk, rfl, hb, r, hr, hv⟩ := hrel
    have HB : Hid (Below w.heap.size w wr) := hb
    have HRw : Hid (wr.rowIs w.heap.size 56 (n * 2) r) := hr
    have HV : Hid (∀ i, i < k → r (i * 2) = .int .u64 (ID (cs (i % m))) ∧ r (i * 2 + 1) = .float .f64 4607182418800017408) := hv
    clear hv
    by_cases hlt : k < n
    · obtain ⟨pk, hpk, hpm, hmod⟩ := pick_mod hm0 k
      have HPK : Hid (k % m = pk) := hpk
      have pc := (hb.cell (p := ⟨g, pk, none⟩) lg).trans (HR.out.pool.cell pk hpm)
      have kn := HR.out.pool.known pk hpm
      have dg := (kn.of_block (hb.block _ kn.lt)).cell
      have y0 := hr.cell (i := k * 2) (by omega)
      have y1 := hr.cell (i := k * 2 + 1) (by omega)
      have f0 := hr.frozen (k * 2)
      have f1 := hr.frozen (k * 2 + 1)
      have i1 : (k : Int) < (n : Int) := by omega
      have i2 : (pk : Int) < (m : Int) := by omega
      have i4 : ¬ m = 0 := by omega
      have HK2 : Hid (k < n) := hlt
      clear hb hr hpk kn
      go_wp2_with fail
      go_roundw
      case rel =>
        refine ⟨k + 1, by have := HK2.out; omega, by go_num, (HB.out.setCell (Nat.le_refl _) _).setCell (Nat.le_refl _) _, _, (HRw.out.set (k * 2) _).set (k * 2 + 1) _, fun i hi => ?_⟩
        by_cases hik : i = k
        · subst hik
          rw [HPK.out]
          exact ⟨by rw [if_neg (by omega), if_pos rfl], by rw [if_pos rfl]⟩
        · obtain ⟨h1, h2⟩ := HV.out i (by omega)
          exact ⟨by rw [if_neg (by omega), if_neg (by omega)]; exact h1, by rw [if_neg (by omega), if_neg (by omega)]; exact h2⟩
      case measure => have := HK2.out; simp [intOf]; omega
    · have hkn : k = n := by omega
      subst hkn
      clear hlt hb hr
      go_wp2_with fail
      refine HK.out _ _ ?_
      have hr := HR.out
      have lq := World.block_lt_of_cell? w _ hr.q0
      simp only at lq
      have hrow := HRw.out
      have hlt := hr.lt
      obtain ⟨e0, e1⟩ := HV.out x hr.lt
      refine t11 w0 wr ID w.heap.size q k x (ID (cs (x % m))) l 4607182418800017408 two ss pC pN pK g m cap cs ?_ hl hm a7 n7 c7 b7 o7 C7 N7 K7 H7.out hn7 a8 n8 c8 b8 o8 C8 N8 K8 H8.out hn8 a9 n9 c9 b9 o9 C9 N9 K9 H9.out hn9 _ rfl
      exact
        { bel := hr.bel.trans (HB.out.mono hr.bel.size)
          lt := hr.lt
          n8 := hr.n8
          pool := hr.pool.later HB.out
          p0 := (hrow.cell (by omega)).trans (by rw [e0])
          p1 := (hrow.cell (by omega)).trans (by rw [e1])
          q0 := (HB.out.cell (by exact lq)).trans hr.q0
          q1 := (HB.out.cell (by exact lq)).trans hr.q1
          q2 := (HB.out.cell (by exact lq)).trans hr.q2
          cB := hr.cB }
end Go.Proofs.Ybulkdkrk.lawS5587CWhole
