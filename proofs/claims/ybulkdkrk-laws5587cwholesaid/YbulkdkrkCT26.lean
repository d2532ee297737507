import Derived.Test.YbulkdkrkCSet
import Derived.Test.YbulkdkrkCModel
namespace Go.Proofs.Ybulkdkrk.lawS5587CWhole
open Go.ChangeShapes Go.WideShapes Go.ChangeAt Go.RowKit Go.Proofs.Ybulkdkrk.lawS5587AWhole
set_option linter.unusedVariables false

@[go_sem] theorem neqn61 (w : World) (a : Option Addr) (n c : Nat) : (binOp .neq 61 (.slice a n c) (.slice none 0 0)).run Yba.prog w = .ok (.bool (!a.isNone)) w := run_neq_slice_nil_any w 61 64 a n c 0 0 Yba.underlying61
@[go_sem] theorem neqn65 (w : World) (a : Option Addr) (n c : Nat) : (binOp .neq 65 (.slice a n c) (.slice none 0 0)).run Yba.prog w = .ok (.bool (!a.isNone)) w := run_neq_slice_nil_any w 65 _ a n c 0 0 Yba.underlying65
@[go_sem] theorem neqn52 (w : World) (a : Option Addr) (n c : Nat) : (binOp .neq 52 (.slice a n c) (.slice none 0 0)).run Yba.prog w = .ok (.bool (!a.isNone)) w := run_neq_slice_nil_any w 52 53 a n c 0 0 Yba.underlying52

theorem Hs.dr {w : World} {B : Nat} {v : Value} {L : List H} (h : Hs w B v L) (q : Nat) : Hs (w.drewN q) B v L := h.later (below_drewN (Below.refl _ _) q)
theorem Ids.dr {w : World} {ID : Nat → Int} {L : List H} (h : Ids w ID L) (q : Nat) : Ids (w.drewN q) ID L := h.later (below_drewN (Below.refl _ _) q)

/-- The rest of node x's table, never touched. -/
structure Ext (f : Nat → Value) (x : Nat) : Prop where
  t6 : f (x * 12 + 6) = .bool false
  t7 : f (x * 12 + 7) = .pointer none
  t9 : f (x * 12 + 9) = .slice none 0 0
  t10 : f (x * 12 + 10) = .slice none 0 0
  t11 : f (x * 12 + 11) = .slice none 0 0
/-- The tables of the other nodes: empty. -/
def Oth (f : Nat → Value) (n x : Nat) : Prop := ∀ i, i < n → i ≠ x → f (i * 12 + 1) = .pointer none ∧ f (i * 12 + 3) = .slice none 0 0 ∧ f (i * 12 + 4) = .slice none 0 0 ∧ f (i * 12 + 8) = .bool false

/-- WHAT THE LAST CHECKS READ. -/
structure Fin (w0 w : World) (ID : Nat → Int) (R Tb tb n x : Nat) (ss st : Bool) (pred : H) (vS vP vSc vPc vW : Value) (S S' P W : List H) (f : Nat → Value) : Prop where
  bel : Below w0.heap.size w0 w
  lt : x < n
  n8 : n ≤ 8
  r11 : w.cell? ⟨R, 11, none⟩ = some (.slice (some ⟨Tb, 0, none⟩) n n)
  row : w.rowIs Tb 67 (n * 12) f
  tab : TabF f x pred vS vP st
  ext : Ext f x
  oth : Oth f n x
  hS : Hs w w0.heap.size vS S'
  hP : Hs w w0.heap.size vP P
  hSc : Hs w w0.heap.size vSc S
  hPc : Hs w w0.heap.size vPc P
  hW : Hs w w0.heap.size vW W
  b0 : w.cell? ⟨tb, 0, none⟩ = some (.int .i64 pred.node)
  b1 : w.cell? ⟨tb, 1, none⟩ = some (.pointer (some ⟨pred.c, 0, none⟩))
  b2 : w.cell? ⟨tb, 2, none⟩ = some (.int .i64 pred.links)
  ids : Ids w ID (pred :: (S ++ (S' ++ (P ++ W))))
  eq : (W = S ∧ S' = S ∧ st = ss) ∨ (W ≠ S ∧ S' = W ∧ st = true)

set_option maxRecDepth 1000000 in
set_option maxHeartbeats 8000000 in
/-- The last checks. -/
theorem t26 {v0 v1 v2 v3 v4 v6 v7 v8 v9 v10 v11 v12 v13 v14 v15 v16 v17 v18 v19 v20 v21 v22 v23 v26 v27 v28 v29 v30 v31 v34 v35 v39 v40 v41 v42 v43 v44 v45 v46 v47 v48 v49 v50 v51 v52 v53 v54 v55 v56 v57 v58 v59 v60 v61 v62 v63 v64 v65 v66 v67 v68 v69 v70 v71 v72 v73 v74 v75 v76 v77 v78 v79 v80 v81 v82 v83 v84 v85 v86 v87 v88 v89 v90 v91 v92 v93 v94 v95 v96 v97 v98 v99 v100 v101 v102 v103 v104 v105 v106 v107 v108 v109 v110 v111 v112 v113 v114 v115 v116 v117 v118 v119 v120 v121 v122 v123 v124 v125 v126 v127 v128 v129 v130 v131 v132 v133 v134 v135 v136 v137 v138 v139 v140 v141 v142 v143 v144 v145 v146 v147 v148 v149 v150 v151 v152 v153 v154 v155 v156 v157 v158 v159 v160 v161 v162 v163 v164 v165 v166 v167 v168 v169 v170 v171 v172 v173 v174 v175 v176 v177 v178 v179 v180 v181 v182 v183 v184 v185 v186 v187 v188 v189 v190 v191 v192 v193 v194 v195 v196 v197 v198 v199 v200 v201 v202 v203 v204 v205 v206 v207 v208 v209 v210 v211 v212 v213 v214 v215 v216 v217 v218 v219 v220 v221 v222 v223 v224 v225 v226 v227 v228 v229 v230 v231 v232 v233 v234 v235 v236 v237 v238 v239 v240 v241 v242 v243 v244 v245 v246 v247 v248 v249 v250 v251 v252 v253 v254 v255 v256 v257 v258 v259 v260 v261 v262 v263 v264 v265 v266 v267 v268 v269 v270 v271 v272 v273 v274 v275 v276 v277 v278 v279 v280 v281 v282 v283 v284 v285 v286 v287 v288 v289 v290 v291 v292 v293 v294 v295 v296 v297 v298 v299 v300 v301 v302 v303 v304 v305 v306 v307 v308 v309 v310 v311 v312 v313 v314 v315 v316 v317 v318 v319 v320 v321 v322 v323 v324 v325 v326 v327 v328 v329 v330 v331 v332 v333 v334 v335 v336 : Value} (w0 w : World) (ID : Nat → Int) (R Tb tb n x : Nat) (ss st : Bool) (pred : H) (vS vP vSc vPc vW : Value) (S S' P W : List H) (f : Nat → Value) (hF : Fin w0 w ID R Tb tb n x ss st pred vS vP vSc vPc vW S S' P W f) (code : Code) (hc : Yba.f4.body.map (tailN 26) = some code) :
    Code.wp Yba.prog code (bodyPost Yba.prog Yba.f4 (fun e w' => e = .returned (.bool true) ∧ Below w0.heap.size w0 w')) ⟨#[v0, v1, v2, v3, v4, .bool ss, v6, v7, v8, v9, v10, v11, v12, v13, v14, v15, v16, v17, v18, v19, v20, v21, v22, v23, .int .i64 n, .int .i64 x, v26, v27, v28, v29, v30, v31, .pointer (some ⟨tb, 0, none⟩), .pointer (some ⟨R, 0, none⟩), v34, v35, vSc, vPc, vW, v39, v40, v41, v42, v43, v44, v45, v46, v47, v48, v49, v50, v51, v52, v53, v54, v55, v56, v57, v58, v59, v60, v61, v62, v63, v64, v65, v66, v67, v68, v69, v70, v71, v72, v73, v74, v75, v76, v77, v78, v79, v80, v81, v82, v83, v84, v85, v86, v87, v88, v89, v90, v91, v92, v93, v94, v95, v96, v97, v98, v99, v100, v101, v102, v103, v104, v105, v106, v107, v108, v109, v110, v111, v112, v113, v114, v115, v116, v117, v118, v119, v120, v121, v122, v123, v124, v125, v126, v127, v128, v129, v130, v131, v132, v133, v134, v135, v136, v137, v138, v139, v140, v141, v142, v143, v144, v145, v146, v147, v148, v149, v150, v151, v152, v153, v154, v155, v156, v157, v158, v159, v160, v161, v162, v163, v164, v165, v166, v167, v168, v169, v170, v171, v172, v173, v174, v175, v176, v177, v178, v179, v180, v181, v182, v183, v184, v185, v186, v187, v188, v189, v190, v191, v192, v193, v194, v195, v196, v197, v198, v199, v200, v201, v202, v203, v204, v205, v206, v207, v208, v209, v210, v211, v212, v213, v214, v215, v216, v217, v218, v219, v220, v221, v222, v223, v224, v225, v226, v227, v228, v229, v230, v231, v232, v233, v234, v235, v236, v237, v238, v239, v240, v241, v242, v243, v244, v245, v246, v247, v248, v249, v250, v251, v252, v253, v254, v255, v256, v257, v258, v259, v260, v261, v262, v263, v264, v265, v266, v267, v268, v269, v270, v271, v272, v273, v274, v275, v276, v277, v278, v279, v280, v281, v282, v283, v284, v285, v286, v287, v288, v289, v290, v291, v292, v293, v294, v295, v296, v297, v298, v299, v300, v301, v302, v303, v304, v305, v306, v307, v308, v309, v310, v311, v312, v313, v314, v315, v316, v317, v318, v319, v320, v321, v322, v323, v324, v325, v326, v327, v328, v329, v330, v331, v332, v333, v334, v335, v336], []⟩ w := by
  cases hc
  conv => arg 2; whnf
  have HF : Hid (Fin w0 w ID R Tb tb n x ss st pred vS vP vSc vPc vW S S' P W f) := hF
  obtain ⟨_, hx, hn8, r11, hrow, ⟨t0, t1, t2, t3, t4, t5, t8⟩, ⟨t6, t7, t9, t10, t11⟩, _, hS, hP, _, _, _, b0, b1, b2, hi, _⟩ := hF
  have c0 := (hrow.cell (i := x * 12) (by omega)).trans (by rw [t0])
  have c1 := (hrow.cell (i := x * 12 + 1) (by omega)).trans (by rw [t1])
  have c2 := (hrow.cell (i := x * 12 + 2) (by omega)).trans (by rw [t2])
  have c3 := (hrow.cell (i := x * 12 + 3) (by omega)).trans (by rw [t3])
  have c4 := (hrow.cell (i := x * 12 + 4) (by omega)).trans (by rw [t4])
  have c5 := (hrow.cell (i := x * 12 + 5) (by omega)).trans (by rw [t5])
  have c6 := (hrow.cell (i := x * 12 + 6) (by omega)).trans (by rw [t6])
  have c7 := (hrow.cell (i := x * 12 + 7) (by omega)).trans (by rw [t7])
  have c8 := (hrow.cell (i := x * 12 + 8) (by omega)).trans (by rw [t8])
  have c9 := (hrow.cell (i := x * 12 + 9) (by omega)).trans (by rw [t9])
  have c10 := (hrow.cell (i := x * 12 + 10) (by omega)).trans (by rw [t10])
  have c11 := (hrow.cell (i := x * 12 + 11) (by omega)).trans (by rw [t11])
  have hkp : Known w ID pred.c := hi pred (by simp)
  have hptr : ∀ q, (Op.equalIn 9999 53 (.pointer (some ⟨pred.c, 0, none⟩)) (.pointer (some ⟨pred.c, 0, none⟩))).run Yba.prog (w.drewN q) = .ok true (w.drewN q) := fun q => by
    have := eq_ptr (ID := ID) (hkp.of_block (w' := w.drewN q) rfl) (hkp.of_block (w' := w.drewN q) rfl) 9998
    simpa using this
  clear hrow t0 t1 t2 t3 t4 t5 t8 t6 t7 t9 t10 t11 hS hP hi hkp
  refine wp_seq_k ?_
  intro K hK
  have HK := show Hid _ from hK
  clear hK
  go_wp2_with fail
  refine HK.out _ _ ?_
  clear HK K
  refine wp_seq_k ?_
  intro K hK
  have HK := show Hid _ from hK
  clear hK
  refine wp_seq_k ?_
  intro K2 hK2
  have HK2 := show Hid _ from hK2
  clear hK2
  have hdP : decide (P = P) = true := by simp
  go_quiet ((go_at_call 13; exact Calls.quiet_of (equal_any ID P P _ _ _ _ _ (HF.out.hP.dr _) (HF.out.hPc.dr _) ((HF.out.ids.sub (fun y hy => by rcases List.mem_append.1 hy with h | h <;> simp [h])).dr _))))
  go_wp2_with fail
  refine HK2.out _ _ ?_
  clear HK2 K2
  go_wp2_with fail
  refine HK.out _ _ ?_
  clear HK K
  clear c0 c1 c2 c4 c5 c6 c7 c9 c10 c11 b0 b1 b2 hptr hdP
  generalize hwd : w.drewN nq = wd
  have hFd : Hid (Below w.heap.size w wd) := by subst hwd; exact below_drewN (Below.refl _ _) _
  have d3 : wd.cell? ⟨Tb, x * 12 + 3, none⟩ = some vS := by subst hwd; exact c3
  have d8 : wd.cell? ⟨Tb, x * 12 + 8, none⟩ = some (.bool st) := by subst hwd; exact c8
  clear hwd c3 c8
  have HB : Hid (Below w0.heap.size w0 wd) := HF.out.bel.trans (hFd.out.mono HF.out.bel.size)
  have HIW : Hid (Ids wd ID (W ++ S)) := (HF.out.ids.sub (fun y hy => by rcases List.mem_append.1 hy with h | h <;> simp [h])).later hFd.out
  have HIS : Hid (Ids wd ID (S' ++ S)) := (HF.out.ids.sub (fun y hy => by rcases List.mem_append.1 hy with h | h <;> simp [h])).later hFd.out
  have HIX : Hid (Ids wd ID (S' ++ W)) := (HF.out.ids.sub (fun y hy => by rcases List.mem_append.1 hy with h | h <;> simp [h])).later hFd.out
  have HhS : Hid (Hs wd w0.heap.size vS S') := HF.out.hS.later hFd.out
  have HhSc : Hid (Hs wd w0.heap.size vSc S) := HF.out.hSc.later hFd.out
  have HhW : Hid (Hs wd w0.heap.size vW W) := HF.out.hW.later hFd.out
  refine wp_seq_k ?_
  intro K hK
  have HK := show Hid _ from hK
  clear hK
  rcases HF.out.eq with ⟨e1, e2, e3⟩ | ⟨e1, e2, e3⟩
  · have hd1 : decide (W = S) = true := by simp [e1]
    have hd2 : decide (S' = S) = true := by simp [e2]
    subst e3
    go_wp2_with fail
    refine (equal_any ID W S _ _ _ _ _ HhW.out HhSc.out HIW.out).mono ?_
    rintro e w1 ⟨rfl, q, rfl⟩
    go_wp2_with fail
    refine (equal_any ID S' S _ _ _ _ _ (HhS.out.dr q) (HhSc.out.dr q) (HIS.out.dr q)).mono ?_
    rintro e w1 ⟨rfl, q2, rfl⟩
    go_wp2_with fail
    go_ret
    exact ⟨rfl, below_drewN HB.out _⟩
  · have hd1 : decide (W = S) = false := by simp [e1]
    have hd2 : decide (S' = W) = true := by simp [e2]
    subst e3
    go_wp2_with fail
    refine (equal_any ID W S _ _ _ _ _ HhW.out HhSc.out HIW.out).mono ?_
    rintro e w1 ⟨rfl, q, rfl⟩
    go_wp2_with fail
    refine HK.out _ _ ?_
    clear HK K
    go_wp2_with fail
    refine (equal_any ID S' W _ _ _ _ _ (HhS.out.dr q) (HhW.out.dr q) (HIX.out.dr q)).mono ?_
    rintro e w1 ⟨rfl, q2, rfl⟩
    go_wp2_with fail
    go_ret
    exact ⟨rfl, below_drewN HB.out _⟩
end Go.Proofs.Ybulkdkrk.lawS5587CWhole
