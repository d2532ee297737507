import Derived.Test.YbulkdkrkCT9
namespace Go.Proofs.Ybulkdkrk.lawS5587CWhole
open Go.ChangeShapes Go.WideShapes Go.ChangeAt Go.RowKit Go.Proofs.Ybulkdkrk.lawS5587AWhole
set_option linter.unusedVariables false

/-- What is laid out when the pool stands. -/
structure Pre2 (w0 w : World) (ID : Nat → Int) (q : Nat) (pC : Nat) (pN pK : Int) (g m : Nat) (cs : Nat → Nat) : Prop where
  bel : Below w0.heap.size w0 w
  pool : Pool w g m cs ID
  q0 : w.cell? ⟨q, 0, none⟩ = some (.int .u8 (pC : Int))
  q1 : w.cell? ⟨q, 1, none⟩ = some (.int .i64 pN)
  q2 : w.cell? ⟨q, 2, none⟩ = some (.int .i64 pK)
  cB : pC ≤ 255

set_option maxRecDepth 1000000 in
set_option maxHeartbeats 8000000 in
/-- The numbers. -/
theorem t5 {v0 v6 v10 v11 v12 v13 v14 v15 v17 v18 v19 v20 v22 v23 v24 v25 v26 v27 v28 v29 v30 v31 v32 v33 v34 v35 v36 v37 v38 v39 v40 v41 v42 v43 v44 v45 v46 v47 v48 v49 v50 v51 v52 v53 v54 v55 v56 v57 v58 v59 v60 v61 v62 v63 v64 v65 v66 v67 v68 v69 v70 v71 v72 v73 v74 v75 v76 v77 v78 v79 v80 v81 v82 v83 v84 v85 v86 v87 v88 v89 v90 v91 v92 v93 v94 v95 v96 v97 v98 v99 v100 v101 v102 v103 v104 v105 v106 v107 v108 v109 v110 v111 v112 v113 v114 v115 v116 v117 v118 v119 v120 v121 v122 v123 v124 v125 v126 v127 v128 v129 v130 v131 v132 v133 v134 v135 v136 v137 v138 v139 v140 v141 v142 v143 v144 v145 v146 v147 v148 v149 v150 v151 v152 v153 v154 v155 v156 v157 v158 v159 v160 v161 v162 v163 v164 v165 v166 v167 v168 v169 v170 v171 v172 v173 v174 v175 v176 v177 v178 v179 v180 v181 v182 v183 v184 v185 v186 v187 v188 v189 v190 v191 v192 v193 v194 v195 v196 v197 v198 v199 v200 v201 v202 v203 v204 v205 v206 v207 v208 v209 v210 v211 v212 v213 v214 v215 v216 v217 v218 v219 v220 v221 v222 v223 v224 v225 v226 v227 v228 v229 v230 v231 v232 v233 v234 v235 v236 v237 v238 v239 v240 v241 v242 v243 v244 v245 v246 v247 v248 v249 v250 v251 v252 v253 v254 v255 v256 v257 v258 v259 v260 v261 v262 v263 v264 v265 v266 v267 v268 v269 v270 v271 v272 v273 v274 v275 v276 v277 v278 v279 v280 v281 v282 v283 v284 v285 v286 v287 v288 v289 v290 v291 v292 v293 v294 v295 v296 v297 v298 v299 v300 v301 v302 v303 v304 v305 v306 v307 v308 v309 v310 v311 v312 v313 v314 v315 v316 v317 v318 v319 v320 v321 v322 v323 v324 v325 v326 v327 v328 v329 v330 v331 v332 v333 v334 v335 v336 : Value} (w0 w : World) (ID : Nat → Int) (q : Nat) (nd xb : Nat) (ll : Int) (two ss : Bool) (pC : Nat) (pN pK : Int) (g m cap : Nat) (cs : Nat → Nat) (hR : Pre2 w0 w ID q pC pN pK g m cs) (hnd : nd ≤ 255) (hxb : xb ≤ 255) (hl0 : -9223372036854775808 ≤ ll) (hl1 : ll ≤ 9223372036854775807)
    (hm : m ≤ 65537) (a7 : Option Addr) (n7 c7 b7 o7 : Nat) (C7 : Nat → Nat) (N7 K7 : Nat → Int) (h7 : Src w0 a7 n7 b7 o7 C7 N7 K7) (hn7 : n7 ≤ 65536) (a8 : Option Addr) (n8 c8 b8 o8 : Nat) (C8 : Nat → Nat) (N8 K8 : Nat → Int) (h8 : Src w0 a8 n8 b8 o8 C8 N8 K8) (hn8 : n8 ≤ 65536) (a9 : Option Addr) (n9 c9 b9 o9 : Nat) (C9 : Nat → Nat) (N9 K9 : Nat → Int) (h9 : Src w0 a9 n9 b9 o9 C9 N9 K9) (hn9 : n9 ≤ 65536) (code : Code) (hc : Yba.f4.body.map (tailN 5) = some code) :
    Code.wp Yba.prog code (bodyPost Yba.prog Yba.f4 (fun e w' => e = .returned (.bool true) ∧ Below w0.heap.size w0 w')) ⟨#[v0, .int .u8 (nd : Int), .int .u8 (xb : Int), .int .i64 ll, .bool two, .bool ss, v6, .slice a7 n7 c7, .slice a8 n8 c8, .slice a9 n9 c9, v10, v11, v12, v13, v14, v15, .pointer (some ⟨q, 0, none⟩), v17, v18, v19, v20, .slice (some ⟨g, 0, none⟩) m cap, v22, v23, v24, v25, v26, v27, v28, v29, v30, v31, v32, v33, v34, v35, v36, v37, v38, v39, v40, v41, v42, v43, v44, v45, v46, v47, v48, v49, v50, v51, v52, v53, v54, v55, v56, v57, v58, v59, v60, v61, v62, v63, v64, v65, v66, v67, v68, v69, v70, v71, v72, v73, v74, v75, v76, v77, v78, v79, v80, v81, v82, v83, v84, v85, v86, v87, v88, v89, v90, v91, v92, v93, v94, v95, v96, v97, v98, v99, v100, v101, v102, v103, v104, v105, v106, v107, v108, v109, v110, v111, v112, v113, v114, v115, v116, v117, v118, v119, v120, v121, v122, v123, v124, v125, v126, v127, v128, v129, v130, v131, v132, v133, v134, v135, v136, v137, v138, v139, v140, v141, v142, v143, v144, v145, v146, v147, v148, v149, v150, v151, v152, v153, v154, v155, v156, v157, v158, v159, v160, v161, v162, v163, v164, v165, v166, v167, v168, v169, v170, v171, v172, v173, v174, v175, v176, v177, v178, v179, v180, v181, v182, v183, v184, v185, v186, v187, v188, v189, v190, v191, v192, v193, v194, v195, v196, v197, v198, v199, v200, v201, v202, v203, v204, v205, v206, v207, v208, v209, v210, v211, v212, v213, v214, v215, v216, v217, v218, v219, v220, v221, v222, v223, v224, v225, v226, v227, v228, v229, v230, v231, v232, v233, v234, v235, v236, v237, v238, v239, v240, v241, v242, v243, v244, v245, v246, v247, v248, v249, v250, v251, v252, v253, v254, v255, v256, v257, v258, v259, v260, v261, v262, v263, v264, v265, v266, v267, v268, v269, v270, v271, v272, v273, v274, v275, v276, v277, v278, v279, v280, v281, v282, v283, v284, v285, v286, v287, v288, v289, v290, v291, v292, v293, v294, v295, v296, v297, v298, v299, v300, v301, v302, v303, v304, v305, v306, v307, v308, v309, v310, v311, v312, v313, v314, v315, v316, v317, v318, v319, v320, v321, v322, v323, v324, v325, v326, v327, v328, v329, v330, v331, v332, v333, v334, v335, v336], []⟩ w := by
  cases hc
  conv => arg 2; whnf
  have HR : Hid (Pre2 w0 w ID q pC pN pK g m cs) := hR
  have H7 : Hid (Src w0 a7 n7 b7 o7 C7 N7 K7) := h7
  have H8 : Hid (Src w0 a8 n8 b8 o8 C8 N8 K8) := h8
  have H9 : Hid (Src w0 a9 n9 b9 o9 C9 N9 K9) := h9
  clear hR h7 h8 h9
  obtain ⟨n, hn⟩ : ∃ n, 1 + nd % 8 = n := ⟨_, rfl⟩
  have hn0 : 0 < n := by omega
  have hnn8 : n ≤ 8 := by omega
  obtain ⟨x, hx, hxn, hxmod⟩ := pick_mod hn0 xb
  refine wp_seq_k ?_
  intro K hK
  have HK := show Hid _ from hK
  clear hK
  go_wp2_with fail
  refine HK.out _ _ ?_
  clear HK K
  have hnI : (1 + (nd : Int) % 8) = (n : Int) := by omega
  rw [hnI]
  have i4 : ¬ n = 0 := by omega
  refine wp_seq_k ?_
  intro K hK
  have HK := show Hid _ from hK
  clear hK
  go_wp2_with fail
  refine HK.out _ _ ?_
  clear HK K
  refine wp_seq_k ?_
  intro K hK
  have HK := show Hid _ from hK
  clear hK
  go_wp2_with fail
  refine HK.out _ _ ?_
  clear HK K
  have hpre : Pre1 w0 w ID q n x pC pN pK g m cs := ⟨HR.out.bel, hxn, hnn8, HR.out.pool, HR.out.q0, HR.out.q1, HR.out.q2, HR.out.cB⟩
  have HPre : Hid (Pre1 w0 w ID q n x pC pN pK g m cs) := hpre
  clear hpre HR
  refine wp_seq_k ?_
  intro K hK
  have HK := show Hid _ from hK
  clear hK
  by_cases hneg : ll < 0
  · obtain ⟨l, hl⟩ : ∃ l : Nat, -(ll + 1) = (l : Int) := ⟨(-(ll + 1)).toNat, by omega⟩
    have hlb : l ≤ 9223372036854775807 := by omega
    have hlt : decide (ll < 0) = true := by simpa using hneg
    go_wp2_with fail
    refine HK.out _ _ ?_
    exact t9 w0 w ID q n x l two ss pC pN pK g m cap cs HPre.out hlb hm a7 n7 c7 b7 o7 C7 N7 K7 H7.out hn7 a8 n8 c8 b8 o8 C8 N8 K8 H8.out hn8 a9 n9 c9 b9 o9 C9 N9 K9 H9.out hn9 _ rfl
  · obtain ⟨l, hl⟩ : ∃ l : Nat, ll = (l : Int) := ⟨ll.toNat, by omega⟩
    have hlb : l ≤ 9223372036854775807 := by omega
    subst hl
    have hlt : decide ((l : Int) < 0) = false := by simp
    go_wp2_with fail
    refine HK.out _ _ ?_
    exact t9 w0 w ID q n x l two ss pC pN pK g m cap cs HPre.out hlb hm a7 n7 c7 b7 o7 C7 N7 K7 H7.out hn7 a8 n8 c8 b8 o8 C8 N8 K8 H8.out hn8 a9 n9 c9 b9 o9 C9 N9 K9 H9.out hn9 _ rfl
end Go.Proofs.Ybulkdkrk.lawS5587CWhole
