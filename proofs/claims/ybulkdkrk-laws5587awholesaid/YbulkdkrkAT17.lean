import Derived.Test.YbulkdkrkAT19
namespace Go.Proofs.Ybulkdkrk.lawS5587AWhole
open Go.ChangeShapes Go.WideShapes Go.ChangeAt Go.RowKit
set_option linter.unusedVariables false

set_option maxRecDepth 1000000 in
set_option maxHeartbeats 8000000 in
theorem t17 {v7 v8 v9 v10 v11 v12 v13 v14 v15 v28 v29 v30 v31 v32 v33 v34 v35 v36 v37 v38 v39 v40 v41 v42 v43 v44 v45 v46 v47 v48 v49 v50 v51 v52 v53 v54 v55 v56 v57 v58 v59 v60 v61 v62 v63 v64 v65 v66 v67 v68 v69 v70 v71 v72 v73 v74 v75 v76 v77 v78 v79 v80 v81 v82 v83 v84 v85 v86 v87 v88 v89 v90 v91 v92 v93 v94 v95 v96 v97 v98 v99 v100 v101 v102 v103 v104 v105 v106 v107 v108 v109 v110 v111 v112 v113 v114 v115 v116 v117 v118 v119 v120 v121 v122 v123 v124 v125 v126 v127 v128 v129 v130 v131 v132 v133 v134 v135 v136 v137 v138 v139 v140 v141 v142 v143 v144 v145 v146 v147 v148 v149 v150 v151 v152 v153 v154 v155 v156 v157 v158 v159 v160 v161 v162 v163 v164 v165 v166 v167 v168 v169 v170 v171 v172 v173 v174 v175 v176 v177 v178 v179 v180 v181 v182 v183 v184 v185 v186 v187 v188 v189 v190 v191 v192 v193 v194 v195 v196 v197 v198 v199 v200 v201 v202 v203 v204 v205 v206 v207 v208 v209 v210 v211 v212 v213 v214 v215 v216 v217 v218 v219 v220 v221 v222 v223 v224 v225 v226 v227 v228 v229 v230 v231 v232 v233 v234 v235 v236 v237 v238 v239 v240 v241 v242 v243 v244 v245 v246 v247 v248 v249 v250 v251 v252 v253 v254 v255 v256 v257 v258 v259 v260 v261 v262 v263 v264 v265 v266 v267 v268 v269 v270 v271 v272 v273 v274 v275 v276 v277 v278 v279 v280 v281 v282 v283 v284 v285 v286 v287 v288 v289 v290 v291 v292 v293 v294 v295 v296 v297 v298 v299 v300 v301 v302 v303 v304 v305 v306 v307 v308 v309 v310 v311 v312 v313 v314 v315 v316 v317 v318 v319 v320 v321 v322 v323 v324 v325 v326 v327 v328 v329 v330 v331 v332 v333 v334 v335 v336 v337 v338 v339 v340 v341 v342 v343 v344 : Value} (a0 : Option Addr) (n c0 eb off : Nat) (G S L : Nat → Int) (a1 : Option Addr) (m c1 fb foff : Nat) (H TS TL : Nat → Int) (rs gr tr nd md sN sR sG oI oP oL oA : Int) (sO oH : Bool) (w : World) (p bi bs bl bt ba q ci cs cl ct ca : Nat) (y0 y1 y2 : Int) (y3 : Bool) (wk wx : World) (mi ti sb : Nat) (x : Int) (hE : Ents w a0 n eb off G S L) (hF : Ents w a1 m fb foff H TS TL) (hn : n ≤ 1024) (hm : m ≤ 1024) (md0 : 0 ≤ md) (md1 : md ≤ 255) (p0 : 0 ≤ oP) (p1 : oP ≤ 65535) (hsn : SinceOf md nd tr gr sN sR sG sO y0 y1 y2 y3)
    (hM : Mid w wk (p, bi, bs, bl, bt, ba) (q, ci, cs, cl, ct, ca) n G S L rs gr y0 y1 y2 y3 m H TS TL tr sN sR sG oI oP oL oA sO oH) (hI : wk.rowIs mi 23 n (fun i => .int .u64 (idOf G (i + 1)))) (hJ : wk.rowIs ti 23 m (fun i => .int .u64 (idOf H (i + 1)))) (hS : Snd wk sb nd x oL oA oH q) (hbx : Below wk.heap.size wk wx) (hws : wx.rowIs wk.heap.size 23 n (fun i => .int .u64 (S i))) (hwl : wx.rowIs (wk.heap.size + 1) 3 n (fun i => .int .i64 (L i))) (code : Code) (hc : Yba.f3.body.map (tailN 17) = some code) :
    Code.wp Yba.prog code (bodyPost Yba.prog Yba.f3 (fun e w' => e = .returned (.bool true) ∧ Below w.heap.size w w')) ⟨#[.slice a0 n c0, .slice a1 m c1, .int .u64 rs, .int .u64 gr, .int .u64 tr, .int .i64 nd, .int .u8 md, v7, v8, v9, v10, v11, v12, v13, v14, v15, .pointer (some ⟨w.heap.size, 0, none⟩), .pointer (some ⟨w.heap.size + 1, 0, none⟩), .bool false, .pointer (some ⟨p, 0, none⟩), .pointer (some ⟨q, 0, none⟩), .slice (some ⟨mi, 0, none⟩) n n, .slice (some ⟨ti, 0, none⟩) m m, .int .u64 x, .pointer (some ⟨sb, 0, none⟩), .int .i64 n, .slice (some ⟨wk.heap.size, 0, none⟩) n n, .slice (some ⟨wk.heap.size + 1, 0, none⟩) n n, v28, v29, v30, v31, v32, v33, v34, v35, v36, v37, v38, v39, v40, v41, v42, v43, v44, v45, v46, v47, v48, v49, v50, v51, v52, v53, v54, v55, v56, v57, v58, v59, v60, v61, v62, v63, v64, v65, v66, v67, v68, v69, v70, v71, v72, v73, v74, v75, v76, v77, v78, v79, v80, v81, v82, v83, v84, v85, v86, v87, v88, v89, v90, v91, v92, v93, v94, v95, v96, v97, v98, v99, v100, v101, v102, v103, v104, v105, v106, v107, v108, v109, v110, v111, v112, v113, v114, v115, v116, v117, v118, v119, v120, v121, v122, v123, v124, v125, v126, v127, v128, v129, v130, v131, v132, v133, v134, v135, v136, v137, v138, v139, v140, v141, v142, v143, v144, v145, v146, v147, v148, v149, v150, v151, v152, v153, v154, v155, v156, v157, v158, v159, v160, v161, v162, v163, v164, v165, v166, v167, v168, v169, v170, v171, v172, v173, v174, v175, v176, v177, v178, v179, v180, v181, v182, v183, v184, v185, v186, v187, v188, v189, v190, v191, v192, v193, v194, v195, v196, v197, v198, v199, v200, v201, v202, v203, v204, v205, v206, v207, v208, v209, v210, v211, v212, v213, v214, v215, v216, v217, v218, v219, v220, v221, v222, v223, v224, v225, v226, v227, v228, v229, v230, v231, v232, v233, v234, v235, v236, v237, v238, v239, v240, v241, v242, v243, v244, v245, v246, v247, v248, v249, v250, v251, v252, v253, v254, v255, v256, v257, v258, v259, v260, v261, v262, v263, v264, v265, v266, v267, v268, v269, v270, v271, v272, v273, v274, v275, v276, v277, v278, v279, v280, v281, v282, v283, v284, v285, v286, v287, v288, v289, v290, v291, v292, v293, v294, v295, v296, v297, v298, v299, v300, v301, v302, v303, v304, v305, v306, v307, v308, v309, v310, v311, v312, v313, v314, v315, v316, v317, v318, v319, v320, v321, v322, v323, v324, v325, v326, v327, v328, v329, v330, v331, v332, v333, v334, v335, v336, v337, v338, v339, v340, v341, v342, v343, v344], []⟩ wx := by
  cases hc
  conv => arg 2; whnf
  have HM : Hid (Mid w wk (p, bi, bs, bl, bt, ba) (q, ci, cs, cl, ct, ca) n G S L rs gr y0 y1 y2 y3 m H TS TL tr sN sR sG oI oP oL oA sO oH) := hM
  have HI : Hid (wk.rowIs mi 23 n (fun i => .int .u64 (idOf G (i + 1)))) := hI
  have HJ : Hid (wk.rowIs ti 23 m (fun i => .int .u64 (idOf H (i + 1)))) := hJ
  have HS := show Hid _ from hS
  have HR : Hid (Below wk.heap.size wk wx ∧ wx.rowIs wk.heap.size 23 n (fun i => .int .u64 (S i)) ∧ wx.rowIs (wk.heap.size + 1) 3 n (fun i => .int .i64 (L i))) := ⟨hbx, hws, hwl⟩
  have HEE : Hid (Ents w a0 n eb off G S L) := hE
  have HFF : Hid (Ents w a1 m fb foff H TS TL) := hF
  have HSN := show Hid _ from hsn
  obtain ⟨b0, b1, b2, b3, _⟩ := (hM.later hbx).box.cells
  clear hM hI hJ hS hbx hws hwl hE hF hsn
  go_upto_region 26 with fail
  go_cut [30] (fun v wz => v = .bool (isE md nd tr gr sN sR sG sO) ∧ wz = wx)
  case first =>
    cases q1 : (md % 2 == 1) with
    | true =>
      go_wp2_with fail
      go_meet
      case rel => exact ⟨by simp [isE, q1], rfl⟩
    | false =>
      cases sO with
      | false =>
        go_wp2_with fail
        go_meet
        case rel => exact ⟨by simp [isE, evenB, q1], rfl⟩
      | true =>
        cases q2 : (sN == nd) with
        | false =>
          go_wp2_with fail
          go_meet
          case rel => exact ⟨by simp [isE, evenB, q1, q2], rfl⟩
        | true =>
          cases q3 : (sR == tr) with
          | false =>
            go_wp2_with fail
            go_meet
            case rel => exact ⟨by simp [isE, evenB, q1, q2, q3], rfl⟩
          | true =>
            go_wp2_with fail
            go_meet
            case rel => exact ⟨by simp [isE, evenB, q1, q2, q3], rfl⟩
  case rest =>
    obtain ⟨rfl, rfl⟩ := hcut
    refine ‹∀ (a : Act) (w : World), Code.wp Yba.prog _ _ a w → _› _ _ ?_
    exact t19 a0 n c0 eb off G S L a1 m c1 fb foff H TS TL rs gr tr nd md sN sR sG oI oP oL oA sO oH w p bi bs bl bt ba q ci cs cl ct ca y0 y1 y2 y3 wk _ mi ti sb x
      HEE.out HFF.out hn hm md0 md1 p0 p1 HSN.out HM.out HI.out HJ.out HS.out HR.out.1 HR.out.2.1 HR.out.2.2 _ rfl
end Go.Proofs.Ybulkdkrk.lawS5587AWhole
