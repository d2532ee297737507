import Derived.Test.YbulkdkrkCT24
namespace Go.Proofs.Ybulkdkrk.lawS5587CWhole
open Go.ChangeShapes Go.WideShapes Go.ChangeAt Go.RowKit Go.Proofs.Ybulkdkrk.lawS5587AWhole
set_option linter.unusedVariables false

/-- THE RING AS IT IS LAID OUT AHEAD OF THE CALL. -/
structure Rg (w0 w : World) (ID : Nat → Int) (R Pb Tb Sb tb n x : Nat) (X : Int) (l cp : Nat) (two ss : Bool) (pred : H) (vS vP : Value) (S P : List H) (f : Nat → Value) : Prop where
  bel : Below w0.heap.size w0 w
  lt : x < n
  n8 : n ≤ 8
  r11 : w.cell? ⟨R, 11, none⟩ = some (.slice (some ⟨Tb, 0, none⟩) n n)
  r12 : w.cell? ⟨R, 12, none⟩ = some (.bool false)
  r14 : w.cell? ⟨R, 14, none⟩ = some (.int .i64 (l : Int))
  rst : Rst w R Pb Sb n x X cp two
  row : w.rowIs Tb 67 (n * 12) f
  tab : TabF f x pred vS vP ss
  ext : Ext f x
  oth : Oth f n x
  hS : Hs w w0.heap.size vS S
  hP : Hs w w0.heap.size vP P
  lS : S.length ≤ 65536
  lP : P.length ≤ 65536
  b0 : w.cell? ⟨tb, 0, none⟩ = some (.int .i64 pred.node)
  b1 : w.cell? ⟨tb, 1, none⟩ = some (.pointer (some ⟨pred.c, 0, none⟩))
  b2 : w.cell? ⟨tb, 2, none⟩ = some (.int .i64 pred.links)
  ids : Ids w ID (pred :: (S ++ P))
  gT : w0.heap.size ≤ Tb
  gS : w0.heap.size ≤ Sb
  n1 : Sb ≠ R
  n2 : Sb ≠ Tb
  n3 : Sb ≠ Pb
  n4 : Tb ≠ R
  n5 : Tb ≠ Pb
  m1 : tb ≠ Tb
  m2 : tb ≠ Sb

section
variable {w0 w w' : World} {ID : Nat → Int} {R Pb Tb Sb tb n x : Nat} {X : Int} {l cp : Nat} {two ss : Bool} {pred : H} {vS vP : Value} {S P : List H} {f : Nat → Value}
theorem Rg.later (h : Rg w0 w ID R Pb Tb Sb tb n x X l cp two ss pred vS vP S P f) (hb : Below w.heap.size w w') : Rg w0 w' ID R Pb Tb Sb tb n x X l cp two ss pred vS vP S P f :=
  { h with
    bel := h.bel.trans (hb.mono h.bel.size)
    r11 := (hb.cell (World.block_lt_of_cell? w _ h.r11)).trans h.r11
    r12 := (hb.cell (World.block_lt_of_cell? w _ h.r12)).trans h.r12
    r14 := (hb.cell (World.block_lt_of_cell? w _ h.r14)).trans h.r14
    rst := h.rst.later hb
    row := h.row.of_block (hb.block _ h.row.lt)
    hS := h.hS.later hb
    hP := h.hP.later hb
    b0 := (hb.cell (World.block_lt_of_cell? w _ h.b0)).trans h.b0
    b1 := (hb.cell (World.block_lt_of_cell? w _ h.b1)).trans h.b1
    b2 := (hb.cell (World.block_lt_of_cell? w _ h.b2)).trans h.b2
    ids := h.ids.later hb }

theorem Ext.set (h : Ext f x) (v : Value) : Ext (setF f x v) x := by
  constructor <;> unfold setF <;> rw [if_neg (by omega), if_neg (by omega)]
  · exact h.t6
  · exact h.t7
  · exact h.t9
  · exact h.t10
  · exact h.t11
theorem Oth.set (h : Oth f n x) (v : Value) : Oth (setF f x v) n x := by
  intro i hi hx
  obtain ⟨a, b, c, d⟩ := h i hi hx
  unfold setF
  refine ⟨?_, ?_, ?_, ?_⟩ <;> rw [if_neg (by omega), if_neg (by omega)] <;> assumption

/-- Behind the call. -/
theorem Rg.fin {vSc vPc vW : Value} {W : List H} (h : Rg w0 w ID R Pb Tb Sb tb n x X l cp two ss pred vS vP S P f) (hSc : Hs w w0.heap.size vSc S) (hPc : Hs w w0.heap.size vPc P) (hW : Hs w w0.heap.size vW W) (hiW : Ids w ID W) (ht : Took w w' Tb Sb n x f S W) :
    (∃ st vS' S' f', Fin w0 w' ID R Tb tb n x ss st pred vS' vP vSc vPc vW S S' P W f') ∧ (∀ v L, Hs w w0.heap.size v L → Hs w' w0.heap.size v L) ∧ (∀ L, Ids w ID L → Ids w' ID L) := by
  have hall : ∀ y ∈ pred :: (S ++ (S ++ (P ++ W))), Known w ID y.c := by
    intro y hy
    have hy' : y ∈ pred :: (S ++ P) ∨ y ∈ W := by
      simp only [List.mem_cons, List.mem_append] at hy ⊢
      rcases hy with h | h | h | h | h
      · exact .inl (.inl h)
      · exact .inl (.inr (.inl h))
      · exact .inl (.inr (.inl h))
      · exact .inl (.inr (.inr h))
      · exact .inr h
    rcases hy' with h1 | h1
    · exact h.ids y h1
    · exact hiW y h1
  rcases ht with ⟨e, hb⟩ | ⟨e, hc, v, hv, hr⟩
  · have h' := h.later hb
    refine ⟨⟨ss, vS, S, f, h'.bel, h.lt, h.n8, h'.r11, h'.row, h.tab, h.ext, h.oth, h'.hS, h'.hP, hSc.later hb, hPc.later hb, hW.later hb, h'.b0, h'.b1, h'.b2, (show Ids w ID _ from hall).later hb, .inl ⟨e, rfl, rfl⟩⟩, fun v L hl => hl.later hb, fun L hl => hl.later hb⟩
  · obtain ⟨fs, hfs⟩ := h.rst.st
    have hty : ∀ b ∈ [Tb, Sb], ∃ t n f, w.rowIs b t n f ∧ t ≠ 64 := by
      intro b hb
      rcases List.mem_cons.1 hb with rfl | hb
      · exact ⟨67, _, _, h.row, by decide⟩
      · simp only [List.mem_singleton] at hb
        subst hb
        exact ⟨125, _, _, hfs, by decide⟩
    have hty59 : ∀ b ∈ [Tb, Sb], ∀ ca, w.heap[b]? ≠ some (.cells ca 59 (0, 0)) := by
      intro b hb ca he
      rcases List.mem_cons.1 hb with rfl | hb
      · obtain ⟨c, e, _⟩ := h.row
        rw [e] at he
        injection he with he
        injection he with _ he
        cases he
      · simp only [List.mem_singleton] at hb
        subst hb
        obtain ⟨c, e, _⟩ := hfs
        rw [e] at he
        injection he with he
        injection he with _ he
        cases he
    have hh : ∀ v L, Hs w w0.heap.size v L → Hs w' w0.heap.size v L := fun v L hl => hl.chgX hty hc
    have hid : ∀ L, Ids w ID L → Ids w' ID L := fun L hl => hl.chg hc hty59
    have nR : R ∉ [Tb, Sb] := by have := h.n1; have := h.n4; simp; omega
    have nb : tb ∉ [Tb, Sb] := by have := h.m1; have := h.m2; simp; omega
    have lR := World.block_lt_of_cell? w _ h.r11
    have lb := World.block_lt_of_cell? w _ h.b0
    refine ⟨⟨true, v, W, setF f x v, h.bel.trans (hc.below h.bel.size (fun b hb => ?_)), h.lt, h.n8, (hc.cell (by exact lR) (by exact nR)).trans h.r11, hr, setF_tab h.tab v, h.ext.set v, h.oth.set v, hv.mono h.bel.size, hh _ _ h.hP, hh _ _ hSc, hh _ _ hPc, hh _ _ hW, (hc.cell (by exact lb) (by exact nb)).trans h.b0, (hc.cell (by exact lb) (by exact nb)).trans h.b1, (hc.cell (by exact lb) (by exact nb)).trans h.b2, ?_, .inr ⟨e, rfl, rfl⟩⟩, hh, hid⟩
    · rcases List.mem_cons.1 hb with rfl | hb
      · exact h.gT
      · simp only [List.mem_singleton] at hb
        subst hb
        exact h.gS
    · refine hid _ (fun y hy => ?_)
      simp only [List.mem_cons, List.mem_append] at hy
      rcases hy with h1 | h1 | h1 | h1 | h1
      · exact h.ids y (by simp [h1])
      · exact h.ids y (by simp [h1])
      · exact hiW y h1
      · exact h.ids y (by simp [h1])
      · exact hiW y h1
end

set_option maxRecDepth 1000000 in
set_option maxHeartbeats 8000000 in
/-- The call itself. -/
theorem t22 {v0 v1 v2 v3 v4 v6 v7 v8 v9 v10 v11 v12 v13 v14 v15 v16 v17 v18 v19 v20 v21 v22 v23 v26 v27 v28 v29 v39 v40 v41 v42 v43 v44 v45 v46 v47 v48 v49 v50 v51 v52 v53 v54 v55 v56 v57 v58 v59 v60 v61 v62 v63 v64 v65 v66 v67 v68 v69 v70 v71 v72 v73 v74 v75 v76 v77 v78 v79 v80 v81 v82 v83 v84 v85 v86 v87 v88 v89 v90 v91 v92 v93 v94 v95 v96 v97 v98 v99 v100 v101 v102 v103 v104 v105 v106 v107 v108 v109 v110 v111 v112 v113 v114 v115 v116 v117 v118 v119 v120 v121 v122 v123 v124 v125 v126 v127 v128 v129 v130 v131 v132 v133 v134 v135 v136 v137 v138 v139 v140 v141 v142 v143 v144 v145 v146 v147 v148 v149 v150 v151 v152 v153 v154 v155 v156 v157 v158 v159 v160 v161 v162 v163 v164 v165 v166 v167 v168 v169 v170 v171 v172 v173 v174 v175 v176 v177 v178 v179 v180 v181 v182 v183 v184 v185 v186 v187 v188 v189 v190 v191 v192 v193 v194 v195 v196 v197 v198 v199 v200 v201 v202 v203 v204 v205 v206 v207 v208 v209 v210 v211 v212 v213 v214 v215 v216 v217 v218 v219 v220 v221 v222 v223 v224 v225 v226 v227 v228 v229 v230 v231 v232 v233 v234 v235 v236 v237 v238 v239 v240 v241 v242 v243 v244 v245 v246 v247 v248 v249 v250 v251 v252 v253 v254 v255 v256 v257 v258 v259 v260 v261 v262 v263 v264 v265 v266 v267 v268 v269 v270 v271 v272 v273 v274 v275 v276 v277 v278 v279 v280 v281 v282 v283 v284 v285 v286 v287 v288 v289 v290 v291 v292 v293 v294 v295 v296 v297 v298 v299 v300 v301 v302 v303 v304 v305 v306 v307 v308 v309 v310 v311 v312 v313 v314 v315 v316 v317 v318 v319 v320 v321 v322 v323 v324 v325 v326 v327 v328 v329 v330 v331 v332 v333 v334 v335 v336 : Value} (w0 w : World) (ID : Nat → Int) (R Pb Tb Sb tb n x : Nat) (X : Int) (l cp : Nat) (two ss : Bool) (pred : H) (vS vP vSc vPc vW vH vHc : Value) (S P hs : List H) (f : Nat → Value) (hR : Rg w0 w ID R Pb Tb Sb tb n x X l cp two ss pred vS vP S P f)
    (hH : Hs w w0.heap.size vH hs) (hHc : Hs w w0.heap.size vHc hs) (hSc : Hs w w0.heap.size vSc S) (hPc : Hs w w0.heap.size vPc P) (hW : Hs w w0.heap.size vW ((dedup ID X l hs).map (findH ID (pred :: (S ++ P))))) (hih : Ids w ID hs) (hnH : hs.length ≤ 65536) (code : Code) (hc : Yba.f4.body.map (tailN 22) = some code) :
    Code.wp Yba.prog code (bodyPost Yba.prog Yba.f4 (fun e w' => e = .returned (.bool true) ∧ Below w0.heap.size w0 w')) ⟨#[v0, v1, v2, v3, v4, .bool ss, v6, v7, v8, v9, v10, v11, v12, v13, v14, v15, v16, v17, v18, v19, v20, v21, v22, v23, .int .i64 n, .int .i64 x, v26, v27, v28, v29, vS, vP, .pointer (some ⟨tb, 0, none⟩), .pointer (some ⟨R, 0, none⟩), vH, vHc, vSc, vPc, vW, v39, v40, v41, v42, v43, v44, v45, v46, v47, v48, v49, v50, v51, v52, v53, v54, v55, v56, v57, v58, v59, v60, v61, v62, v63, v64, v65, v66, v67, v68, v69, v70, v71, v72, v73, v74, v75, v76, v77, v78, v79, v80, v81, v82, v83, v84, v85, v86, v87, v88, v89, v90, v91, v92, v93, v94, v95, v96, v97, v98, v99, v100, v101, v102, v103, v104, v105, v106, v107, v108, v109, v110, v111, v112, v113, v114, v115, v116, v117, v118, v119, v120, v121, v122, v123, v124, v125, v126, v127, v128, v129, v130, v131, v132, v133, v134, v135, v136, v137, v138, v139, v140, v141, v142, v143, v144, v145, v146, v147, v148, v149, v150, v151, v152, v153, v154, v155, v156, v157, v158, v159, v160, v161, v162, v163, v164, v165, v166, v167, v168, v169, v170, v171, v172, v173, v174, v175, v176, v177, v178, v179, v180, v181, v182, v183, v184, v185, v186, v187, v188, v189, v190, v191, v192, v193, v194, v195, v196, v197, v198, v199, v200, v201, v202, v203, v204, v205, v206, v207, v208, v209, v210, v211, v212, v213, v214, v215, v216, v217, v218, v219, v220, v221, v222, v223, v224, v225, v226, v227, v228, v229, v230, v231, v232, v233, v234, v235, v236, v237, v238, v239, v240, v241, v242, v243, v244, v245, v246, v247, v248, v249, v250, v251, v252, v253, v254, v255, v256, v257, v258, v259, v260, v261, v262, v263, v264, v265, v266, v267, v268, v269, v270, v271, v272, v273, v274, v275, v276, v277, v278, v279, v280, v281, v282, v283, v284, v285, v286, v287, v288, v289, v290, v291, v292, v293, v294, v295, v296, v297, v298, v299, v300, v301, v302, v303, v304, v305, v306, v307, v308, v309, v310, v311, v312, v313, v314, v315, v316, v317, v318, v319, v320, v321, v322, v323, v324, v325, v326, v327, v328, v329, v330, v331, v332, v333, v334, v335, v336], []⟩ w := by
  cases hc
  conv => arg 2; whnf
  have HR : Hid (Rg w0 w ID R Pb Tb Sb tb n x X l cp two ss pred vS vP S P f) := hR
  have HH : Hid (Hs w w0.heap.size vH hs) := hH
  have HHc : Hid (Hs w w0.heap.size vHc hs) := hHc
  have HSc : Hid (Hs w w0.heap.size vSc S) := hSc
  have HPc : Hid (Hs w w0.heap.size vPc P) := hPc
  have HW : Hid (Hs w w0.heap.size vW ((dedup ID X l hs).map (findH ID (pred :: (S ++ P))))) := hW
  have HIH : Hid (Ids w ID hs) := hih
  clear hR hH hHc hSc hPc hW hih
  refine wp_seq_k ?_
  intro K hK
  have HK := show Hid _ from hK
  clear hK
  go_wp2_with fail
  refine HK.out _ _ ?_
  clear HK K
  generalize hwx : World.alloc _ _ = wx
  have hbx : Below w.heap.size w wx := by subst hwx; exact nb (Below.refl _ _) (Nat.le_refl _) _
  have u0 : wx.cell? ⟨w.heap.size, 0, none⟩ = some (.pointer (some ⟨R, 0, none⟩)) := by subst hwx; simp [go_sem]
  clear hwx
  have hRx := HR.out.later hbx
  have HRx : Hid (Rg w0 wx ID R Pb Tb Sb tb n x X l cp two ss pred vS vP S P f) := hRx
  have HIHx : Hid (Ids wx ID hs) := HIH.out.later hbx
  have hids : Ids wx ID (pred :: (S ++ P) ++ hs) := fun y hy => by
    rcases List.mem_append.1 hy with h | h
    · exact hRx.ids y h
    · exact HIHx.out y h
  have hiW : Ids wx ID ((dedup ID X l hs).map (findH ID (pred :: (S ++ P)))) := by
    intro y hy
    obtain ⟨h, hh, rfl⟩ := List.mem_map.1 hy
    unfold findH
    cases hfd : (pred :: (S ++ P)).find? (fun g => ID g.c == ID h.c) with
    | none =>
      refine HIHx.out h ?_
      rcases fold_sub _ _ h hh with h1 | h1
      · simp at h1
      · exact h1
    | some g => exact hRx.ids g (List.mem_of_find?_eq_some hfd)
  have hcall := take_any ID pred hs S P w0.heap.size w.heap.size R Pb Tb Sb n x X l cp two ss vH vS vP f wx hRx.lt hRx.r11 hRx.r12 ⟨hRx.lt, u0, hRx.rst.r2, hRx.r14, hRx.rst.p0⟩ hRx.row hRx.tab hRx.rst (HH.out.later hbx) hRx.hS hRx.hP hnH hRx.lP hids hRx.n1 hRx.n2 hRx.n3 hRx.n4 hRx.n5
  have HC : Hid (Calls Yba.prog 12 #[.pointer (some ⟨w.heap.size, 0, none⟩), .int .i64 x, vH] wx fun e w' => e = .returned (.tuple #[]) ∧ Took wx w' Tb Sb n x f S ((dedup ID X l hs).map (findH ID (pred :: (S ++ P))))) := hcall
  have HHx : Hid (Hs wx w0.heap.size vH hs) := HH.out.later hbx
  have HHcx : Hid (Hs wx w0.heap.size vHc hs) := HHc.out.later hbx
  have HScx : Hid (Hs wx w0.heap.size vSc S) := HSc.out.later hbx
  have HPcx : Hid (Hs wx w0.heap.size vPc P) := HPc.out.later hbx
  have HWx : Hid (Hs wx w0.heap.size vW ((dedup ID X l hs).map (findH ID (pred :: (S ++ P))))) := HW.out.later hbx
  have HiW : Hid (Ids wx ID ((dedup ID X l hs).map (findH ID (pred :: (S ++ P))))) := hiW
  clear hcall hids hiW hRx hbx HR HH HHc HSc HPc HW u0
  refine wp_seq_k ?_
  intro K hK
  have HK := show Hid _ from hK
  clear hK
  go_wp2_with fail
  refine HC.out.mono ?_
  rintro e w2 ⟨rfl, htook⟩
  obtain ⟨⟨st, vS', S', f', hfin⟩, hh, hid⟩ := HRx.out.fin HScx.out HPcx.out HWx.out HiW.out htook
  have HFin : Hid (Fin w0 w2 ID R Tb tb n x ss st pred vS' vP vSc vPc vW S S' P ((dedup ID X l hs).map (findH ID (pred :: (S ++ P)))) f') := hfin
  have Hh : Hid (∀ v L, Hs wx w0.heap.size v L → Hs w2 w0.heap.size v L) := hh
  have Hid2 : Hid (∀ L, Ids wx ID L → Ids w2 ID L) := hid
  clear htook hfin hh hid
  go_wp2_with fail
  refine HK.out _ _ ?_
  exact t24 w0 w2 ID R Tb tb n x ss st pred vS' vP vSc vPc vW S S' P _ f' HFin.out vH vHc vS vP hs (Hh.out _ _ HHx.out) (Hh.out _ _ HHcx.out) (Hh.out _ _ HRx.out.hS) (Hh.out _ _ HRx.out.hP) (Hid2.out _ HIHx.out) _ rfl
end Go.Proofs.Ybulkdkrk.lawS5587CWhole
