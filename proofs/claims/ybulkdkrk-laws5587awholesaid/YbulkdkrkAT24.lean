import Derived.Test.YbulkdkrkATail
namespace Go.Proofs.Ybulkdkrk.lawS5587AWhole
open Go.ChangeShapes Go.WideShapes Go.ChangeAt Go.RowKit
set_option linter.unusedVariables false

/-- What learn leaves, whichever way it went. -/
theorem learn_mid {w wx : World} {p bi bs bl bt ba q ci cs cl ct ca n m : Nat} {G S L H TS TL : Nat → Int} {rs gr tr nd md sN sR sG oI oP oL oA y0 y1 y2 x : Int} {sO oH y3 : Bool} (hn : n ≤ 1024) (hm : m ≤ 1024)
    (hM : Mid w wx (p, bi, bs, bl, bt, ba) (q, ci, cs, cl, ct, ca) n G S L rs gr y0 y1 y2 y3 m H TS TL tr sN sR sG oI oP oL oA sO oH) (hsn : SinceOf md nd tr gr sN sR sG sO y0 y1 y2 y3) :
    Calls Yba.prog 7 #[.pointer (some ⟨p, 0, none⟩), .agg #[.int .i64 nd, .int .u64 x, .int .i64 oL, .int .u64 oA, .bool oH, .pointer (some ⟨q, 0, none⟩)]] wx fun e w' => e = .returned (.tuple #[]) ∧ Chg [p, bs, bl] wx w' ∧
      ∃ S' L' r', OwnStep (fun i => idOf G (i + 1)) n x oH oA oL (w1S (isE md nd tr gr sN sR sG sO) (fun i => idOf G (i + 1)) (fun i => idOf H (i + 1)) S TS m) (w1L (isE md nd tr gr sN sR sG sO) (fun i => idOf G (i + 1)) (fun i => idOf H (i + 1)) S TS L TL m) (w1R (isE md nd tr gr sN sR sG sO) (fun i => idOf G (i + 1)) (fun i => idOf H (i + 1)) S TS m rs n) S' L' r' ∧
        Led w' p bi bs bl bt ba n (fun i => idOf G (i + 1)) S' L' (fun i => G i % 2) (fun i => G i + 1) (odds G n) r' gr nd tr gr true := by
  have hup : ∀ (F : Nat → Int) (k i j : Nat), i < j → j < k → idOf F (i + 1) < idOf F (j + 1) := fun F k i j h _ => idOf_lt F (by omega)
  have hap : ∀ g, g ∈ [q, ci, cs, cl, ct, ca] → g ∉ [p, bs, bl] := fun g hg hg' => by
    refine hM.ap g hg ?_
    simp only [List.mem_cons, List.not_mem_nil, or_false] at hg'
    simp only [blocks, List.mem_cons, List.not_mem_nil, or_false]
    rcases hg' with h | h | h <;> simp [h]
  have he := since_even hsn
  cases hE : isE md nd tr gr sN sR sG sO with
  | true =>
    rw [hE] at he
    exact learn_even p bi bs bl bt ba n _ S L _ _ _ rs gr y0 y1 y2 y3 q ci cs cl ct ca m _ TS TL _ _ _ tr 0 0 0 0 false nd x oL oA oH wx hn (hup G n) (hup H m) hM.l hM.o hap he
  | false =>
    rw [hE] at he
    exact learn_odd p bi bs bl bt ba n _ S L _ _ _ rs gr y0 y1 y2 y3 q ci cs cl ct ca m _ TS TL _ _ _ tr 0 0 0 0 false nd x oL oA oH wx hn hm (hup G n) (hup H m) hM.l hM.o hap he

set_option maxRecDepth 1000000 in
set_option maxHeartbeats 8000000 in
theorem t24 {v7 v8 v9 v10 v11 v12 v13 v14 v15 v28 v30 v31 v32 v33 v34 v37 v38 v39 v40 v41 v42 v43 v44 v45 v46 v47 v48 v49 v50 v51 v52 v53 v54 v55 v56 v57 v58 v59 v60 v61 v62 v63 v64 v65 v66 v67 v68 v69 v70 v71 v72 v73 v74 v75 v76 v77 v78 v79 v80 v81 v82 v83 v84 v85 v86 v87 v88 v89 v90 v91 v92 v93 v94 v95 v96 v97 v98 v99 v100 v101 v102 v103 v104 v105 v106 v107 v108 v109 v110 v111 v112 v113 v114 v115 v116 v117 v118 v119 v120 v121 v122 v123 v124 v125 v126 v127 v128 v129 v130 v131 v132 v133 v134 v135 v136 v137 v138 v139 v140 v141 v142 v143 v144 v145 v146 v147 v148 v149 v150 v151 v152 v153 v154 v155 v156 v157 v158 v159 v160 v161 v162 v163 v164 v165 v166 v167 v168 v169 v170 v171 v172 v173 v174 v175 v176 v177 v178 v179 v180 v181 v182 v183 v184 v185 v186 v187 v188 v189 v190 v191 v192 v193 v194 v195 v196 v197 v198 v199 v200 v201 v202 v203 v204 v205 v206 v207 v208 v209 v210 v211 v212 v213 v214 v215 v216 v217 v218 v219 v220 v221 v222 v223 v224 v225 v226 v227 v228 v229 v230 v231 v232 v233 v234 v235 v236 v237 v238 v239 v240 v241 v242 v243 v244 v245 v246 v247 v248 v249 v250 v251 v252 v253 v254 v255 v256 v257 v258 v259 v260 v261 v262 v263 v264 v265 v266 v267 v268 v269 v270 v271 v272 v273 v274 v275 v276 v277 v278 v279 v280 v281 v282 v283 v284 v285 v286 v287 v288 v289 v290 v291 v292 v293 v294 v295 v296 v297 v298 v299 v300 v301 v302 v303 v304 v305 v306 v307 v308 v309 v310 v311 v312 v313 v314 v315 v316 v317 v318 v319 v320 v321 v322 v323 v324 v325 v326 v327 v328 v329 v330 v331 v332 v333 v334 v335 v336 v337 v338 v339 v340 v341 v342 v343 v344 : Value} (a0 : Option Addr) (n c0 eb off : Nat) (G S L : Nat → Int) (a1 : Option Addr) (m c1 fb foff : Nat) (H TS TL : Nat → Int) (rs gr tr nd md sN sR sG oI oP oL oA : Int) (sO oH : Bool) (w : World) (p bi bs bl bt ba q ci cs cl ct ca : Nat) (y0 y1 y2 : Int) (y3 : Bool) (wc wx : World) (mi ti sb os ol : Nat) (x : Int) (S2 L2 : Nat → Int) (r2 : Int) (hE : Ents w a0 n eb off G S L) (hF : Ents w a1 m fb foff H TS TL) (hn : n ≤ 1024) (hm : m ≤ 1024) (hsn : SinceOf md nd tr gr sN sR sG sO y0 y1 y2 y3)
    (hM : Mid w wc (p, bi, bs, bl, bt, ba) (q, ci, cs, cl, ct, ca) n G S L rs gr y0 y1 y2 y3 m H TS TL tr sN sR sG oI oP oL oA sO oH) (hI : wc.rowIs mi 23 n (fun i => .int .u64 (idOf G (i + 1)))) (hJ : wc.rowIs ti 23 m (fun i => .int .u64 (idOf H (i + 1)))) (hS : Snd wc sb nd x oL oA oH q) (hbx : Below wc.heap.size wc wx) (hws : wx.rowIs wc.heap.size 23 n (fun i => .int .u64 (S2 i))) (hwl : wx.rowIs (wc.heap.size + 1) 3 n (fun i => .int .i64 (L2 i))) (hos : wx.rowIs os 23 m (fun i => .int .u64 (TS i))) (hol : wx.rowIs ol 3 m (fun i => .int .i64 (TL i))) (hoo : wc.heap.size ≤ os ∧ wc.heap.size ≤ ol) (hst : OwnStep (fun i => idOf G (i + 1)) n x oH oA oL (w1S (isE md nd tr gr sN sR sG sO) (fun i => idOf G (i + 1)) (fun i => idOf H (i + 1)) S TS m) (w1L (isE md nd tr gr sN sR sG sO) (fun i => idOf G (i + 1)) (fun i => idOf H (i + 1)) S TS L TL m) (w1R (isE md nd tr gr sN sR sG sO) (fun i => idOf G (i + 1)) (fun i => idOf H (i + 1)) S TS m rs n) S2 L2 r2) (code : Code) (hc : Yba.f3.body.map (tailN 24) = some code) :
    Code.wp Yba.prog code (bodyPost Yba.prog Yba.f3 (fun e w' => e = .returned (.bool true) ∧ Below w.heap.size w w')) ⟨#[.slice a0 n c0, .slice a1 m c1, .int .u64 rs, .int .u64 gr, .int .u64 tr, .int .i64 nd, .int .u8 md, v7, v8, v9, v10, v11, v12, v13, v14, v15, .pointer (some ⟨w.heap.size, 0, none⟩), .pointer (some ⟨w.heap.size + 1, 0, none⟩), .bool false, .pointer (some ⟨p, 0, none⟩), .pointer (some ⟨q, 0, none⟩), .slice (some ⟨mi, 0, none⟩) n n, .slice (some ⟨ti, 0, none⟩) m m, .int .u64 x, .pointer (some ⟨sb, 0, none⟩), .int .i64 n, .slice (some ⟨wc.heap.size, 0, none⟩) n n, .slice (some ⟨wc.heap.size + 1, 0, none⟩) n n, v28, .int .u64 r2, v30, v31, v32, v33, v34, .slice (some ⟨os, 0, none⟩) m m, .slice (some ⟨ol, 0, none⟩) m m, v37, v38, v39, v40, v41, v42, v43, v44, v45, v46, v47, v48, v49, v50, v51, v52, v53, v54, v55, v56, v57, v58, v59, v60, v61, v62, v63, v64, v65, v66, v67, v68, v69, v70, v71, v72, v73, v74, v75, v76, v77, v78, v79, v80, v81, v82, v83, v84, v85, v86, v87, v88, v89, v90, v91, v92, v93, v94, v95, v96, v97, v98, v99, v100, v101, v102, v103, v104, v105, v106, v107, v108, v109, v110, v111, v112, v113, v114, v115, v116, v117, v118, v119, v120, v121, v122, v123, v124, v125, v126, v127, v128, v129, v130, v131, v132, v133, v134, v135, v136, v137, v138, v139, v140, v141, v142, v143, v144, v145, v146, v147, v148, v149, v150, v151, v152, v153, v154, v155, v156, v157, v158, v159, v160, v161, v162, v163, v164, v165, v166, v167, v168, v169, v170, v171, v172, v173, v174, v175, v176, v177, v178, v179, v180, v181, v182, v183, v184, v185, v186, v187, v188, v189, v190, v191, v192, v193, v194, v195, v196, v197, v198, v199, v200, v201, v202, v203, v204, v205, v206, v207, v208, v209, v210, v211, v212, v213, v214, v215, v216, v217, v218, v219, v220, v221, v222, v223, v224, v225, v226, v227, v228, v229, v230, v231, v232, v233, v234, v235, v236, v237, v238, v239, v240, v241, v242, v243, v244, v245, v246, v247, v248, v249, v250, v251, v252, v253, v254, v255, v256, v257, v258, v259, v260, v261, v262, v263, v264, v265, v266, v267, v268, v269, v270, v271, v272, v273, v274, v275, v276, v277, v278, v279, v280, v281, v282, v283, v284, v285, v286, v287, v288, v289, v290, v291, v292, v293, v294, v295, v296, v297, v298, v299, v300, v301, v302, v303, v304, v305, v306, v307, v308, v309, v310, v311, v312, v313, v314, v315, v316, v317, v318, v319, v320, v321, v322, v323, v324, v325, v326, v327, v328, v329, v330, v331, v332, v333, v334, v335, v336, v337, v338, v339, v340, v341, v342, v343, v344], []⟩ wx := by
  cases hc
  conv => arg 2; whnf
  have hMx := hM.later hbx
  have hSx := hS.chg (Chg.of_below (X := []) hbx) (by simp)
  obtain ⟨s0, s1, s2, s3, s4, s5⟩ := hSx.cells
  have hlts := hM.lts.1
  have l1 := hlts p (by simp [blocks])
  have l2 := hlts bs (by simp [blocks])
  have l3 := hlts bl (by simp [blocks])
  have X1 : ∀ g, wc.heap.size ≤ g → g ∉ [p, bs, bl] := fun g hg h => by simp at h; omega
  have HX : Hid (Mid w wx (p, bi, bs, bl, bt, ba) (q, ci, cs, cl, ct, ca) n G S L rs gr y0 y1 y2 y3 m H TS TL tr sN sR sG oI oP oL oA sO oH) := hMx
  have HWS := show Hid _ from hws
  have HWL := show Hid _ from hwl
  have HOS := show Hid _ from hos
  have HOL := show Hid _ from hol
  have HST := show Hid _ from hst
  have HX1 : Hid (∀ g, wc.heap.size ≤ g → g ∉ [p, bs, bl]) := X1
  have HEE : Hid (Ents w a0 n eb off G S L) := hE
  have HFF : Hid (Ents w a1 m fb foff H TS TL) := hF
  have HSN := show Hid _ from hsn
  clear hM hI hJ hS hbx hws hwl hos hol hst hMx hSx hlts X1 hE hF hsn
  go_wp2_with fail
  refine (learn_mid hn hm HX.out HSN.out).mono ?_
  rintro e w7 ⟨rfl, hc7, S', L', r', hst', hL7⟩
  obtain ⟨rfl, rfl, rfl⟩ := own_unique (fun i j h _ => idOf_lt G (by omega)) HST.out hst'
  have hws7 := hc7.row HWS.out (HX1.out _ (Nat.le_refl _))
  have hwl7 := hc7.row HWL.out (HX1.out _ (by omega))
  have hos7 := hc7.row HOS.out (HX1.out _ hoo.1)
  have hol7 := hc7.row HOL.out (HX1.out _ hoo.2)
  have hapP : ∀ g, g ∈ [q, ci, cs, cl, ct, ca] → g ∉ [p, bs, bl] := fun g hg hg' => by
    refine HX.out.ap g hg ?_
    simp only [List.mem_cons, List.not_mem_nil, or_false] at hg'
    simp only [blocks, List.mem_cons, List.not_mem_nil, or_false]
    rcases hg' with h | h | h <;> simp [h]
  have hO7 := Bl.chg HX.out.o hc7 hapP
  have hb7 : Below w.heap.size w w7 := HX.out.bel.trans (hc7.below HX.out.bel.size (by
    intro y hy
    have h := HX.out.gel y (by
      simp only [List.mem_cons, List.not_mem_nil, or_false] at hy
      simp only [blocks, List.mem_cons, List.not_mem_nil, or_false]
      rcases hy with h | h | h <;> simp [h])
    omega))
  have hE7 := HEE.out.later hb7
  have hF7 := HFF.out.later hb7
  clear HX HWS HWL HOS HOL HST hst' hc7 hapP s0 s1 s2 s3 s4 s5
  go_wp2_with fail
  refine (check_any p bi bs bl bt ba n S2 L2 r2 gr nd tr gr true a0 c0 eb off G S L wc.heap.size (wc.heap.size + 1) w7 hn hL7 hE7 hws7 hwl7).mono ?_
  rintro e w8 ⟨rfl, hb8⟩
  have c8 : Chg [] w7 w8 := Chg.of_below hb8
  have hL8 := hL7.chg c8 (by simp)
  have hO8 := Bl.chg hO7 c8 (by simp)
  have hos8 := c8.row hos7 (by simp)
  have hol8 := c8.row hol7 (by simp)
  have hF8 := hF7.later hb8
  have hbw8 : Below w.heap.size w w8 := hb7.trans (hb8.mono hb7.size)
  obtain ⟨d0, d1, d2, d3, d4, d5, d6, d7, d8, d9, d10, d11, _⟩ := hL8.cells
  clear hL7 hO7 hos7 hol7 hF7 hE7 hws7 hwl7 hb8 c8 hL8
  go_wp2_with fail
  refine (check_any q ci cs cl ct ca m TS TL tr 0 0 0 0 false a1 c1 fb foff H TS TL os ol w8 hm hO8 hF8 hos8 hol8).mono ?_
  rintro e w9 ⟨rfl, hb9⟩
  have c9 : Chg [] w8 w9 := Chg.of_below hb9
  have hO9 := Bl.chg hO8 c9 (by simp)
  have hbw9 : Below w.heap.size w w9 := hbw8.trans (hb9.mono hbw8.size)
  obtain ⟨e0, e1, e2, e3, e4, e5, e6, e7, e8, e9, e10, e11, _⟩ := Led.cells hO9
  clear hO8 hos8 hol8 hF8 hb9 c9 hO9 d0 d1 d2 d3 d4 d5 d6 d7 d8 d9 d10 d11
  go_wp2_with fail
  go_ret
  exact ⟨rfl, hbw9⟩
end Go.Proofs.Ybulkdkrk.lawS5587AWhole
