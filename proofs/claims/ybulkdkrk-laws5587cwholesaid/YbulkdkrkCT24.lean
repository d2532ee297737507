import Derived.Test.YbulkdkrkCT26
namespace Go.Proofs.Ybulkdkrk.lawS5587CWhole
open Go.ChangeShapes Go.WideShapes Go.ChangeAt Go.RowKit Go.Proofs.Ybulkdkrk.lawS5587AWhole
set_option linter.unusedVariables false

theorem Fin.later {w0 w w' : World} {ID : Nat → Int} {R Tb tb n x : Nat} {ss st : Bool} {pred : H} {vS vP vSc vPc vW : Value} {S S' P W : List H} {f : Nat → Value} (h : Fin w0 w ID R Tb tb n x ss st pred vS vP vSc vPc vW S S' P W f) (hb : Below w.heap.size w w') :
    Fin w0 w' ID R Tb tb n x ss st pred vS vP vSc vPc vW S S' P W f :=
  ⟨h.bel.trans (hb.mono h.bel.size), h.lt, h.n8, (hb.cell (World.block_lt_of_cell? w _ h.r11)).trans h.r11, h.row.of_block (hb.block _ h.row.lt), h.tab, h.ext, h.oth, h.hS.later hb, h.hP.later hb, h.hSc.later hb, h.hPc.later hb, h.hW.later hb, (hb.cell (World.block_lt_of_cell? w _ h.b0)).trans h.b0, (hb.cell (World.block_lt_of_cell? w _ h.b1)).trans h.b1, (hb.cell (World.block_lt_of_cell? w _ h.b2)).trans h.b2, h.ids.later hb, h.eq⟩

set_option maxRecDepth 1000000 in
set_option maxHeartbeats 8000000 in
/-- The other tables. -/
theorem t25 {v0 v1 v2 v3 v4 v6 v7 v8 v9 v10 v11 v12 v13 v14 v15 v16 v17 v18 v19 v20 v21 v22 v23 v26 v27 v28 v29 v30 v31 v34 v35 v39 v40 v41 v42 v43 v44 v45 v46 v47 v48 v49 v50 v51 v52 v53 v54 v55 v56 v57 v58 v59 v60 v61 v62 v63 v64 v65 v66 v67 v68 v69 v70 v71 v72 v73 v74 v75 v76 v77 v78 v79 v80 v81 v82 v83 v84 v85 v86 v87 v88 v89 v90 v91 v92 v93 v94 v95 v96 v97 v98 v99 v100 v101 v102 v103 v104 v105 v106 v107 v108 v109 v110 v111 v112 v113 v114 v115 v116 v117 v118 v119 v120 v121 v122 v123 v124 v125 v126 v127 v128 v129 v130 v131 v132 v133 v134 v135 v136 v137 v138 v139 v140 v141 v142 v143 v144 v145 v146 v147 v148 v149 v150 v151 v152 v153 v154 v155 v156 v157 v158 v159 v160 v161 v162 v163 v164 v165 v166 v167 v168 v169 v170 v171 v172 v173 v174 v175 v176 v177 v178 v179 v180 v181 v182 v183 v184 v185 v186 v187 v188 v189 v190 v191 v192 v193 v194 v195 v196 v197 v198 v199 v200 v201 v202 v203 v204 v205 v206 v207 v208 v209 v210 v211 v212 v213 v214 v215 v216 v217 v218 v219 v220 v221 v222 v223 v224 v225 v226 v227 v228 v229 v230 v231 v232 v233 v234 v235 v236 v237 v238 v239 v240 v241 v242 v243 v244 v245 v246 v247 v248 v249 v250 v251 v252 v253 v254 v255 v256 v257 v258 v259 v260 v261 v262 v263 v264 v265 v266 v267 v268 v269 v270 v271 v272 v273 v274 v275 v276 v277 v278 v279 v280 v281 v282 v283 v284 v285 v286 v287 v288 v289 v290 v291 v292 v293 v294 v295 v296 v297 v298 v299 v300 v301 v302 v303 v304 v305 v306 v307 v308 v309 v310 v311 v312 v313 v314 v315 v316 v317 v318 v319 v320 v321 v322 v323 v324 v325 v326 v327 v328 v329 v330 v331 v332 v333 v334 v335 v336 : Value} (w0 w : World) (ID : Nat → Int) (R Tb tb n x : Nat) (ss st : Bool) (pred : H) (vS vP vSc vPc vW : Value) (S S' P W : List H) (f : Nat → Value) (hF : Fin w0 w ID R Tb tb n x ss st pred vS vP vSc vPc vW S S' P W f) (code : Code) (hc : Yba.f4.body.map (tailN 25) = some code) :
    Code.wp Yba.prog code (bodyPost Yba.prog Yba.f4 (fun e w' => e = .returned (.bool true) ∧ Below w0.heap.size w0 w')) ⟨#[v0, v1, v2, v3, v4, .bool ss, v6, v7, v8, v9, v10, v11, v12, v13, v14, v15, v16, v17, v18, v19, v20, v21, v22, v23, .int .i64 n, .int .i64 x, v26, v27, v28, v29, v30, v31, .pointer (some ⟨tb, 0, none⟩), .pointer (some ⟨R, 0, none⟩), v34, v35, vSc, vPc, vW, v39, v40, v41, v42, v43, v44, v45, v46, v47, v48, v49, v50, v51, v52, v53, v54, v55, v56, v57, v58, v59, v60, v61, v62, v63, v64, v65, v66, v67, v68, v69, v70, v71, v72, v73, v74, v75, v76, v77, v78, v79, v80, v81, v82, v83, v84, v85, v86, v87, v88, v89, v90, v91, v92, v93, v94, v95, v96, v97, v98, v99, v100, v101, v102, v103, v104, v105, v106, v107, v108, v109, v110, v111, v112, v113, v114, v115, v116, v117, v118, v119, v120, v121, v122, v123, v124, v125, v126, v127, v128, v129, v130, v131, v132, v133, v134, v135, v136, v137, v138, v139, v140, v141, v142, v143, v144, v145, v146, v147, v148, v149, v150, v151, v152, v153, v154, v155, v156, v157, v158, v159, v160, v161, v162, v163, v164, v165, v166, v167, v168, v169, v170, v171, v172, v173, v174, v175, v176, v177, v178, v179, v180, v181, v182, v183, v184, v185, v186, v187, v188, v189, v190, v191, v192, v193, v194, v195, v196, v197, v198, v199, v200, v201, v202, v203, v204, v205, v206, v207, v208, v209, v210, v211, v212, v213, v214, v215, v216, v217, v218, v219, v220, v221, v222, v223, v224, v225, v226, v227, v228, v229, v230, v231, v232, v233, v234, v235, v236, v237, v238, v239, v240, v241, v242, v243, v244, v245, v246, v247, v248, v249, v250, v251, v252, v253, v254, v255, v256, v257, v258, v259, v260, v261, v262, v263, v264, v265, v266, v267, v268, v269, v270, v271, v272, v273, v274, v275, v276, v277, v278, v279, v280, v281, v282, v283, v284, v285, v286, v287, v288, v289, v290, v291, v292, v293, v294, v295, v296, v297, v298, v299, v300, v301, v302, v303, v304, v305, v306, v307, v308, v309, v310, v311, v312, v313, v314, v315, v316, v317, v318, v319, v320, v321, v322, v323, v324, v325, v326, v327, v328, v329, v330, v331, v332, v333, v334, v335, v336], []⟩ w := by
  cases hc
  conv => arg 2; whnf
  have HF : Hid (Fin w0 w ID R Tb tb n x ss st pred vS vP vSc vPc vW S S' P W f) := hF
  obtain ⟨_, hx, hn8, r11, hrow, _, _, hoth, _, _, _, _, _, _, _, _, _, _⟩ := hF
  have HRow : Hid (w.rowIs Tb 67 (n * 12) f) := hrow
  have HO : Hid (Oth f n x) := hoth
  clear hrow hoth
  refine wp_seq_k ?_
  intro K hK
  have HK := show Hid _ from hK
  clear hK
  go_wp2_with fail
  go_loopw [40] (fun i wr => wr = w ∧ ∃ k : Nat, k ≤ n ∧ i = .int .i64 k) (fun i _ => n - (intOf i).toNat)
  case atStart => exact ⟨rfl, 0, Nat.zero_le _, rfl⟩
  case round =>
    obtain ⟨rfl, k, hk, rfl⟩ := hrel
    by_cases hlt : k < n
    · have hk1 : (k : Int) < (n : Int) := by omega
      by_cases hkx : k = x
      · subst hkx
        go_wp2_with fail
        go_roundw
        case rel => exact ⟨by simp, k + 1, by omega, by go_num⟩
        case measure => simp [intOf]; omega
      · obtain ⟨o1, o3, o4, o8⟩ := HO.out k hlt hkx
        have c1 := (HRow.out.cell (i := k * 12 + 1) (by omega)).trans (by rw [o1])
        have c3 := (HRow.out.cell (i := k * 12 + 3) (by omega)).trans (by rw [o3])
        have c4 := (HRow.out.cell (i := k * 12 + 4) (by omega)).trans (by rw [o4])
        have c8 := (HRow.out.cell (i := k * 12 + 8) (by omega)).trans (by rw [o8])
        have hkb : ((k : Int) == (x : Int)) = false := by simp; omega
        go_wp2_with fail
        go_roundw
        case rel => exact ⟨by simp, k + 1, by omega, by go_num⟩
        case measure => simp [intOf]; omega
    · have hkn : k = n := by omega
      subst hkn
      go_wp2_with fail
      refine HK.out _ _ ?_
      exact t26 w0 wr ID R Tb tb k x ss st pred vS vP vSc vPc vW S S' P W f HF.out _ rfl

set_option maxRecDepth 1000000 in
set_option maxHeartbeats 8000000 in
/-- What came in is as it was. -/
theorem t24 {v0 v1 v2 v3 v4 v6 v7 v8 v9 v10 v11 v12 v13 v14 v15 v16 v17 v18 v19 v20 v21 v22 v23 v26 v27 v28 v29 v39 v40 v41 v42 v43 v44 v45 v46 v47 v48 v49 v50 v51 v52 v53 v54 v55 v56 v57 v58 v59 v60 v61 v62 v63 v64 v65 v66 v67 v68 v69 v70 v71 v72 v73 v74 v75 v76 v77 v78 v79 v80 v81 v82 v83 v84 v85 v86 v87 v88 v89 v90 v91 v92 v93 v94 v95 v96 v97 v98 v99 v100 v101 v102 v103 v104 v105 v106 v107 v108 v109 v110 v111 v112 v113 v114 v115 v116 v117 v118 v119 v120 v121 v122 v123 v124 v125 v126 v127 v128 v129 v130 v131 v132 v133 v134 v135 v136 v137 v138 v139 v140 v141 v142 v143 v144 v145 v146 v147 v148 v149 v150 v151 v152 v153 v154 v155 v156 v157 v158 v159 v160 v161 v162 v163 v164 v165 v166 v167 v168 v169 v170 v171 v172 v173 v174 v175 v176 v177 v178 v179 v180 v181 v182 v183 v184 v185 v186 v187 v188 v189 v190 v191 v192 v193 v194 v195 v196 v197 v198 v199 v200 v201 v202 v203 v204 v205 v206 v207 v208 v209 v210 v211 v212 v213 v214 v215 v216 v217 v218 v219 v220 v221 v222 v223 v224 v225 v226 v227 v228 v229 v230 v231 v232 v233 v234 v235 v236 v237 v238 v239 v240 v241 v242 v243 v244 v245 v246 v247 v248 v249 v250 v251 v252 v253 v254 v255 v256 v257 v258 v259 v260 v261 v262 v263 v264 v265 v266 v267 v268 v269 v270 v271 v272 v273 v274 v275 v276 v277 v278 v279 v280 v281 v282 v283 v284 v285 v286 v287 v288 v289 v290 v291 v292 v293 v294 v295 v296 v297 v298 v299 v300 v301 v302 v303 v304 v305 v306 v307 v308 v309 v310 v311 v312 v313 v314 v315 v316 v317 v318 v319 v320 v321 v322 v323 v324 v325 v326 v327 v328 v329 v330 v331 v332 v333 v334 v335 v336 : Value} (w0 w : World) (ID : Nat → Int) (R Tb tb n x : Nat) (ss st : Bool) (pred : H) (vS vP vSc vPc vW : Value) (S S' P W : List H) (f : Nat → Value) (hF : Fin w0 w ID R Tb tb n x ss st pred vS vP vSc vPc vW S S' P W f) (vH vHc vS0 vP0 : Value) (hs : List H) (hH : Hs w w0.heap.size vH hs) (hHc : Hs w w0.heap.size vHc hs) (hS0 : Hs w w0.heap.size vS0 S) (hP0 : Hs w w0.heap.size vP0 P) (hih : Ids w ID hs) (code : Code) (hc : Yba.f4.body.map (tailN 24) = some code) :
    Code.wp Yba.prog code (bodyPost Yba.prog Yba.f4 (fun e w' => e = .returned (.bool true) ∧ Below w0.heap.size w0 w')) ⟨#[v0, v1, v2, v3, v4, .bool ss, v6, v7, v8, v9, v10, v11, v12, v13, v14, v15, v16, v17, v18, v19, v20, v21, v22, v23, .int .i64 n, .int .i64 x, v26, v27, v28, v29, vS0, vP0, .pointer (some ⟨tb, 0, none⟩), .pointer (some ⟨R, 0, none⟩), vH, vHc, vSc, vPc, vW, v39, v40, v41, v42, v43, v44, v45, v46, v47, v48, v49, v50, v51, v52, v53, v54, v55, v56, v57, v58, v59, v60, v61, v62, v63, v64, v65, v66, v67, v68, v69, v70, v71, v72, v73, v74, v75, v76, v77, v78, v79, v80, v81, v82, v83, v84, v85, v86, v87, v88, v89, v90, v91, v92, v93, v94, v95, v96, v97, v98, v99, v100, v101, v102, v103, v104, v105, v106, v107, v108, v109, v110, v111, v112, v113, v114, v115, v116, v117, v118, v119, v120, v121, v122, v123, v124, v125, v126, v127, v128, v129, v130, v131, v132, v133, v134, v135, v136, v137, v138, v139, v140, v141, v142, v143, v144, v145, v146, v147, v148, v149, v150, v151, v152, v153, v154, v155, v156, v157, v158, v159, v160, v161, v162, v163, v164, v165, v166, v167, v168, v169, v170, v171, v172, v173, v174, v175, v176, v177, v178, v179, v180, v181, v182, v183, v184, v185, v186, v187, v188, v189, v190, v191, v192, v193, v194, v195, v196, v197, v198, v199, v200, v201, v202, v203, v204, v205, v206, v207, v208, v209, v210, v211, v212, v213, v214, v215, v216, v217, v218, v219, v220, v221, v222, v223, v224, v225, v226, v227, v228, v229, v230, v231, v232, v233, v234, v235, v236, v237, v238, v239, v240, v241, v242, v243, v244, v245, v246, v247, v248, v249, v250, v251, v252, v253, v254, v255, v256, v257, v258, v259, v260, v261, v262, v263, v264, v265, v266, v267, v268, v269, v270, v271, v272, v273, v274, v275, v276, v277, v278, v279, v280, v281, v282, v283, v284, v285, v286, v287, v288, v289, v290, v291, v292, v293, v294, v295, v296, v297, v298, v299, v300, v301, v302, v303, v304, v305, v306, v307, v308, v309, v310, v311, v312, v313, v314, v315, v316, v317, v318, v319, v320, v321, v322, v323, v324, v325, v326, v327, v328, v329, v330, v331, v332, v333, v334, v335, v336], []⟩ w := by
  cases hc
  conv => arg 2; whnf
  have HF : Hid (Fin w0 w ID R Tb tb n x ss st pred vS vP vSc vPc vW S S' P W f) := hF
  have HH : Hid (Hs w w0.heap.size vH hs) := hH
  have HHc : Hid (Hs w w0.heap.size vHc hs) := hHc
  have HS0 : Hid (Hs w w0.heap.size vS0 S) := hS0
  have HP0 : Hid (Hs w w0.heap.size vP0 P) := hP0
  have HIH : Hid (Ids w ID hs) := hih
  have r11 := hF.r11
  have hd1 : decide (hs = hs) = true := by simp
  have hd2 : decide (S = S) = true := by simp
  have hd3 : decide (P = P) = true := by simp
  clear hF hH hHc hS0 hP0 hih
  refine wp_seq_k ?_
  intro K hK
  have HK := show Hid _ from hK
  clear hK
  go_wp2_with fail
  refine (equal_any ID hs hs _ _ _ _ _ HH.out HHc.out (HIH.out.sub (fun y hy => by rcases List.mem_append.1 hy with h | h <;> exact h))).mono ?_
  rintro e w1 ⟨rfl, q1, rfl⟩
  go_wp2_with fail
  refine (equal_any ID S S _ _ _ _ _ (HS0.out.dr q1) (HF.out.hSc.dr q1) ((HF.out.ids.sub (fun y hy => by rcases List.mem_append.1 hy with h | h <;> simp [h])).dr q1)).mono ?_
  rintro e w1 ⟨rfl, q2, rfl⟩
  go_wp2_with fail
  refine (equal_any ID P P _ _ _ _ _ (HP0.out.later ?_) (HF.out.hPc.later ?_) ((HF.out.ids.sub (fun y hy => by rcases List.mem_append.1 hy with h | h <;> simp [h])).later ?_)).mono ?_
  · exact below_drewN (Below.refl _ _) _
  · exact below_drewN (Below.refl _ _) _
  · exact below_drewN (Below.refl _ _) _
  rintro e w1 ⟨rfl, q3, rfl⟩
  go_wp2_with fail
  refine HK.out _ _ ?_
  exact t25 w0 _ ID R Tb tb n x ss st pred vS vP vSc vPc vW S S' P W f (HF.out.later (below_drewN (Below.refl _ _) _)) _ rfl
end Go.Proofs.Ybulkdkrk.lawS5587CWhole
