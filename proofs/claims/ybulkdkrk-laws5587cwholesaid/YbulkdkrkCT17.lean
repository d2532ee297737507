import Derived.Test.YbulkdkrkCT22
namespace Go.Proofs.Ybulkdkrk.lawS5587CWhole
open Go.ChangeShapes Go.WideShapes Go.ChangeAt Go.RowKit Go.Proofs.Ybulkdkrk.lawS5587AWhole
set_option linter.unusedVariables false

set_option maxRecDepth 1000000 in
set_option maxHeartbeats 8000000 in
/-- The list that is offered, the copies, the model's answer. -/
theorem t17 {v0 v1 v2 v3 v4 v6 v7 v8 v10 v11 v12 v13 v14 v15 v16 v17 v18 v19 v20 v22 v23 v28 v29 v34 v35 v36 v37 v38 v39 v40 v41 v42 v43 v44 v45 v46 v47 v48 v49 v50 v51 v52 v53 v54 v55 v56 v57 v58 v59 v60 v61 v62 v63 v64 v65 v66 v67 v68 v69 v70 v71 v72 v73 v74 v75 v76 v77 v78 v79 v80 v81 v82 v83 v84 v85 v86 v87 v88 v89 v90 v91 v92 v93 v94 v95 v96 v97 v98 v99 v100 v101 v102 v103 v104 v105 v106 v107 v108 v109 v110 v111 v112 v113 v114 v115 v116 v117 v118 v119 v120 v121 v122 v123 v124 v125 v126 v127 v128 v129 v130 v131 v132 v133 v134 v135 v136 v137 v138 v139 v140 v141 v142 v143 v144 v145 v146 v147 v148 v149 v150 v151 v152 v153 v154 v155 v156 v157 v158 v159 v160 v161 v162 v163 v164 v165 v166 v167 v168 v169 v170 v171 v172 v173 v174 v175 v176 v177 v178 v179 v180 v181 v182 v183 v184 v185 v186 v187 v188 v189 v190 v191 v192 v193 v194 v195 v196 v197 v198 v199 v200 v201 v202 v203 v204 v205 v206 v207 v208 v209 v210 v211 v212 v213 v214 v215 v216 v217 v218 v219 v220 v221 v222 v223 v224 v225 v226 v227 v228 v229 v230 v231 v232 v233 v234 v235 v236 v237 v238 v239 v240 v241 v242 v243 v244 v245 v246 v247 v248 v249 v250 v251 v252 v253 v254 v255 v256 v257 v258 v259 v260 v261 v262 v263 v264 v265 v266 v267 v268 v269 v270 v271 v272 v273 v274 v275 v276 v277 v278 v279 v280 v281 v282 v283 v284 v285 v286 v287 v288 v289 v290 v291 v292 v293 v294 v295 v296 v297 v298 v299 v300 v301 v302 v303 v304 v305 v306 v307 v308 v309 v310 v311 v312 v313 v314 v315 v316 v317 v318 v319 v320 v321 v322 v323 v324 v325 v326 v327 v328 v329 v330 v331 v332 v333 v334 v335 v336 : Value} (w0 w : World) (ID : Nat → Int) (R Pb Tb Sb tb n x : Nat) (X : Int) (l cp : Nat) (two ss : Bool) (pred : H) (vS vP : Value) (S P : List H) (f : Nat → Value) (hR : Rg w0 w ID R Pb Tb Sb tb n x X l cp two ss pred vS vP S P f)
    (g m cap : Nat) (cs : Nat → Nat) (hPool : Pool w g m cs ID) (hm : m ≤ 65537) (a9 : Option Addr) (n9 c9 b9 o9 : Nat) (C9 : Nat → Nat) (N9 K9 : Nat → Int) (h9 : Src w a9 n9 b9 o9 C9 N9 K9) (hn9 : n9 ≤ 65536) (code : Code) (hc : Yba.f4.body.map (tailN 17) = some code) :
    Code.wp Yba.prog code (bodyPost Yba.prog Yba.f4 (fun e w' => e = .returned (.bool true) ∧ Below w0.heap.size w0 w')) ⟨#[v0, v1, v2, v3, v4, .bool ss, v6, v7, v8, .slice a9 n9 c9, v10, v11, v12, v13, v14, v15, v16, v17, v18, v19, v20, .slice (some ⟨g, 0, none⟩) m cap, v22, v23, .int .i64 n, .int .i64 x, .int .i64 l, .slice (some ⟨Pb, 0, none⟩) n n, v28, v29, vS, vP, .pointer (some ⟨tb, 0, none⟩), .pointer (some ⟨R, 0, none⟩), v34, v35, v36, v37, v38, v39, v40, v41, v42, v43, v44, v45, v46, v47, v48, v49, v50, v51, v52, v53, v54, v55, v56, v57, v58, v59, v60, v61, v62, v63, v64, v65, v66, v67, v68, v69, v70, v71, v72, v73, v74, v75, v76, v77, v78, v79, v80, v81, v82, v83, v84, v85, v86, v87, v88, v89, v90, v91, v92, v93, v94, v95, v96, v97, v98, v99, v100, v101, v102, v103, v104, v105, v106, v107, v108, v109, v110, v111, v112, v113, v114, v115, v116, v117, v118, v119, v120, v121, v122, v123, v124, v125, v126, v127, v128, v129, v130, v131, v132, v133, v134, v135, v136, v137, v138, v139, v140, v141, v142, v143, v144, v145, v146, v147, v148, v149, v150, v151, v152, v153, v154, v155, v156, v157, v158, v159, v160, v161, v162, v163, v164, v165, v166, v167, v168, v169, v170, v171, v172, v173, v174, v175, v176, v177, v178, v179, v180, v181, v182, v183, v184, v185, v186, v187, v188, v189, v190, v191, v192, v193, v194, v195, v196, v197, v198, v199, v200, v201, v202, v203, v204, v205, v206, v207, v208, v209, v210, v211, v212, v213, v214, v215, v216, v217, v218, v219, v220, v221, v222, v223, v224, v225, v226, v227, v228, v229, v230, v231, v232, v233, v234, v235, v236, v237, v238, v239, v240, v241, v242, v243, v244, v245, v246, v247, v248, v249, v250, v251, v252, v253, v254, v255, v256, v257, v258, v259, v260, v261, v262, v263, v264, v265, v266, v267, v268, v269, v270, v271, v272, v273, v274, v275, v276, v277, v278, v279, v280, v281, v282, v283, v284, v285, v286, v287, v288, v289, v290, v291, v292, v293, v294, v295, v296, v297, v298, v299, v300, v301, v302, v303, v304, v305, v306, v307, v308, v309, v310, v311, v312, v313, v314, v315, v316, v317, v318, v319, v320, v321, v322, v323, v324, v325, v326, v327, v328, v329, v330, v331, v332, v333, v334, v335, v336], []⟩ w := by
  cases hc
  conv => arg 2; whnf
  have HR : Hid (Rg w0 w ID R Pb Tb Sb tb n x X l cp two ss pred vS vP S P f) := hR
  have HPool : Hid (Pool w g m cs ID) := hPool
  have H9 : Hid (Src w a9 n9 b9 o9 C9 N9 K9) := h9
  clear hR hPool h9
  refine wp_seq_k ?_
  intro K hK
  have HK := show Hid _ from hK
  clear hK
  go_wp2_with fail
  refine (build_any ID g m cap cs a9 n9 c9 b9 o9 C9 N9 K9 w HPool.out H9.out hn9 hm).mono ?_
  rintro e w1 ⟨vH, rfl, hH, hb1⟩
  obtain ⟨hs, hhs⟩ : ∃ hs, built m cs C9 N9 K9 n9 = hs := ⟨_, rfl⟩
  have HIH : Hid (Ids w1 ID hs) := by rw [← hhs]; exact (built_ids HPool.out C9 N9 K9 n9).later hb1
  have lH : hs.length ≤ 65536 := by rw [← hhs, built_len]; exact hn9
  rw [hhs] at hH
  have HB1 : Hid (Below w.heap.size w w1) := hb1
  have HR1 : Hid (Rg w0 w1 ID R Pb Tb Sb tb n x X l cp two ss pred vS vP S P f) := HR.out.later hb1
  have HH1 : Hid (Hs w1 w0.heap.size vH hs) := hH.mono HR.out.bel.size
  clear hH hb1 hhs HPool H9 HR
  go_wp2_with fail
  refine HK.out _ _ ?_
  clear HK K
  refine wp_seq_k ?_
  intro K hK
  have HK := show Hid _ from hK
  clear hK
  go_wp2_with fail
  refine (clone_any hs _ vH w1 HH1.out lH).mono ?_
  rintro e w2 ⟨vHc, rfl, hHc, hb2⟩
  have HR2 : Hid (Rg w0 w2 ID R Pb Tb Sb tb n x X l cp two ss pred vS vP S P f) := HR1.out.later hb2
  have HH2 : Hid (Hs w2 w0.heap.size vH hs) := HH1.out.later hb2
  have HHc2 : Hid (Hs w2 w0.heap.size vHc hs) := hHc.mono HR1.out.bel.size
  have HIH2 : Hid (Ids w2 ID hs) := HIH.out.later hb2
  clear hHc hb2 HR1 HH1 HIH
  go_wp2_with fail
  refine HK.out _ _ ?_
  clear HK K
  refine wp_seq_k ?_
  intro K hK
  have HK := show Hid _ from hK
  clear hK
  go_wp2_with fail
  refine (clone_any S _ vS w2 HR2.out.hS HR2.out.lS).mono ?_
  rintro e w3 ⟨vSc, rfl, hSc, hb3⟩
  have HR3 : Hid (Rg w0 w3 ID R Pb Tb Sb tb n x X l cp two ss pred vS vP S P f) := HR2.out.later hb3
  have HH3 : Hid (Hs w3 w0.heap.size vH hs) := HH2.out.later hb3
  have HHc3 : Hid (Hs w3 w0.heap.size vHc hs) := HHc2.out.later hb3
  have HSc3 : Hid (Hs w3 w0.heap.size vSc S) := hSc.mono HR2.out.bel.size
  have HIH3 : Hid (Ids w3 ID hs) := HIH2.out.later hb3
  clear hSc hb3 HR2 HH2 HHc2 HIH2
  go_wp2_with fail
  refine HK.out _ _ ?_
  clear HK K
  refine wp_seq_k ?_
  intro K hK
  have HK := show Hid _ from hK
  clear hK
  go_wp2_with fail
  refine (clone_any P _ vP w3 HR3.out.hP HR3.out.lP).mono ?_
  rintro e w4 ⟨vPc, rfl, hPc, hb4⟩
  have hR4 := HR3.out.later hb4
  have HR4 : Hid (Rg w0 w4 ID R Pb Tb Sb tb n x X l cp two ss pred vS vP S P f) := hR4
  have HH4 : Hid (Hs w4 w0.heap.size vH hs) := HH3.out.later hb4
  have HHc4 : Hid (Hs w4 w0.heap.size vHc hs) := HHc3.out.later hb4
  have HSc4 : Hid (Hs w4 w0.heap.size vSc S) := HSc3.out.later hb4
  have HPc4 : Hid (Hs w4 w0.heap.size vPc P) := hPc.mono HR3.out.bel.size
  have HIH4 : Hid (Ids w4 ID hs) := HIH3.out.later hb4
  clear hPc hb4 HR3 HH3 HHc3 HSc3 HIH3
  have p0 := hR4.rst.p0
  have b0 := hR4.b0
  have b1 := hR4.b1
  have b2 := hR4.b2
  have hx := hR4.lt
  have i1 : (x : Int) < (n : Int) := by omega
  clear hR4
  go_wp2_with fail
  refine HK.out _ _ ?_
  clear HK K
  refine wp_seq_k ?_
  intro K hK
  have HK := show Hid _ from hK
  clear hK
  refine region_tail2 10 (by kernel_rfl) ?_
  intro KK hKK
  simp only [List.take_succ_cons, List.take_zero]
  repeat (refine wpStill_want rfl (fun K hK => ?_); go_simp; refine hK _ ?_; clear hK K)
  refine wpStill_nil ?_
  refine hKK _ ?_
  clear hKK KK
  simp only [List.drop_succ_cons, List.drop_zero]
  refine wpList_want rfl (fun K hK => ?_)
  go_simp
  have hd : Below w4.heap.size w4 w4.drew := below_drewN (Below.refl _ _) 1
  refine (model_any ID X l pred hs S P w0.heap.size vH vS vP w4.drew (HH4.out.later hd) (HR4.out.hS.later hd) (HR4.out.hP.later hd) lH (Ids.later (w := w4) (fun y hy => by
    rcases List.mem_append.1 hy with h | h
    · exact HR4.out.ids y h
    · exact HIH4.out y h) hd)).mono ?_
  rintro e w5 ⟨vW, rfl, hW, hb5⟩
  have hb6 : Below w4.heap.size w4 w5 := hd.trans hb5
  have HR5 : Hid (Rg w0 w5 ID R Pb Tb Sb tb n x X l cp two ss pred vS vP S P f) := HR4.out.later hb6
  have HH5 : Hid (Hs w5 w0.heap.size vH hs) := HH4.out.later hb6
  have HHc5 : Hid (Hs w5 w0.heap.size vHc hs) := HHc4.out.later hb6
  have HSc5 : Hid (Hs w5 w0.heap.size vSc S) := HSc4.out.later hb6
  have HPc5 : Hid (Hs w5 w0.heap.size vPc P) := HPc4.out.later hb6
  have HIH5 : Hid (Ids w5 ID hs) := HIH4.out.later hb6
  have HW5 : Hid (Hs w5 w0.heap.size vW ((dedup ID X l hs).map (findH ID (pred :: (S ++ P))))) := hW.mono (Nat.le_trans HR4.out.bel.size (Nat.le_refl _))
  clear hW hb5 hb6 hd p0 b0 b1 b2 HR4 HH4 HHc4 HSc4 HPc4 HIH4
  refine hK _ _ ?_
  clear hK K
  refine wpList_want rfl (fun K hK => ?_)
  go_simp
  refine hK _ _ ?_
  clear hK K
  go_wp2_with fail
  refine HK.out _ _ ?_
  exact t22 w0 w5 ID R Pb Tb Sb tb n x X l cp two ss pred vS vP vSc vPc vW vH vHc S P hs f HR5.out HH5.out HHc5.out HSc5.out HPc5.out HW5.out HIH5.out lH _ rfl
end Go.Proofs.Ybulkdkrk.lawS5587CWhole
