import Derived.Test.YbulkdkrkAT21
namespace Go.Proofs.Ybulkdkrk.lawS5587AWhole
open Go.ChangeShapes Go.WideShapes Go.ChangeAt Go.RowKit
set_option linter.unusedVariables false

/-- The own load found and later: one store into each row. -/
theorem own_yes {W wr : World} {N N' n k : Nat} {F E : Nat → Int} {v u : Int} (hb : Below W.heap.size W wr) (hN : W.heap.size ≤ N) (hN' : W.heap.size ≤ N') (hne : N ≠ N') (h1 : wr.rowIs N 23 n (fun i => .int .u64 (F i))) (h2 : wr.rowIs N' 3 n (fun i => .int .i64 (E i))) :
    Below W.heap.size W ((wr.setCell ⟨N, k, none⟩ (.int .u64 v)).setCell ⟨N', k, none⟩ (.int .i64 u)) ∧
      ((wr.setCell ⟨N, k, none⟩ (.int .u64 v)).setCell ⟨N', k, none⟩ (.int .i64 u)).rowIs N 23 n (fun i => .int .u64 (upd F k v i)) ∧
      ((wr.setCell ⟨N, k, none⟩ (.int .u64 v)).setCell ⟨N', k, none⟩ (.int .i64 u)).rowIs N' 3 n (fun i => .int .i64 (upd E k u i)) := by
  refine ⟨(hb.setCell hN _).setCell hN' _, ?_, ?_⟩
  · refine ((h1.set k _).setOther (a := ⟨N', k, none⟩) hne _).congr (fun i _ => ?_)
    unfold upd; split <;> rfl
  · refine ((h2.setOther (a := ⟨N, k, none⟩) (fun e => hne e.symm) _).set k _).congr (fun i _ => ?_)
    unfold upd; split <;> rfl

set_option maxRecDepth 1000000 in
set_option maxHeartbeats 8000000 in
theorem t20 {v7 v8 v9 v10 v11 v12 v13 v14 v15 v28 v30 v31 v32 v33 v34 v35 v36 v37 v38 v39 v40 v41 v42 v43 v44 v45 v46 v47 v48 v49 v50 v51 v52 v53 v54 v55 v56 v57 v58 v59 v60 v61 v62 v63 v64 v65 v66 v67 v68 v69 v70 v71 v72 v73 v74 v75 v76 v77 v78 v79 v80 v81 v82 v83 v84 v85 v86 v87 v88 v89 v90 v91 v92 v93 v94 v95 v96 v97 v98 v99 v100 v101 v102 v103 v104 v105 v106 v107 v108 v109 v110 v111 v112 v113 v114 v115 v116 v117 v118 v119 v120 v121 v122 v123 v124 v125 v126 v127 v128 v129 v130 v131 v132 v133 v134 v135 v136 v137 v138 v139 v140 v141 v142 v143 v144 v145 v146 v147 v148 v149 v150 v151 v152 v153 v154 v155 v156 v157 v158 v159 v160 v161 v162 v163 v164 v165 v166 v167 v168 v169 v170 v171 v172 v173 v174 v175 v176 v177 v178 v179 v180 v181 v182 v183 v184 v185 v186 v187 v188 v189 v190 v191 v192 v193 v194 v195 v196 v197 v198 v199 v200 v201 v202 v203 v204 v205 v206 v207 v208 v209 v210 v211 v212 v213 v214 v215 v216 v217 v218 v219 v220 v221 v222 v223 v224 v225 v226 v227 v228 v229 v230 v231 v232 v233 v234 v235 v236 v237 v238 v239 v240 v241 v242 v243 v244 v245 v246 v247 v248 v249 v250 v251 v252 v253 v254 v255 v256 v257 v258 v259 v260 v261 v262 v263 v264 v265 v266 v267 v268 v269 v270 v271 v272 v273 v274 v275 v276 v277 v278 v279 v280 v281 v282 v283 v284 v285 v286 v287 v288 v289 v290 v291 v292 v293 v294 v295 v296 v297 v298 v299 v300 v301 v302 v303 v304 v305 v306 v307 v308 v309 v310 v311 v312 v313 v314 v315 v316 v317 v318 v319 v320 v321 v322 v323 v324 v325 v326 v327 v328 v329 v330 v331 v332 v333 v334 v335 v336 v337 v338 v339 v340 v341 v342 v343 v344 : Value} (a0 : Option Addr) (n c0 eb off : Nat) (G S L : Nat → Int) (a1 : Option Addr) (m c1 fb foff : Nat) (H TS TL : Nat → Int) (rs gr tr nd md sN sR sG oI oP oL oA : Int) (sO oH : Bool) (w : World) (p bi bs bl bt ba q ci cs cl ct ca : Nat) (y0 y1 y2 : Int) (y3 : Bool) (wk wx : World) (mi ti sb : Nat) (x : Int) (S1 L1 : Nat → Int) (r1 : Int) (hE : Ents w a0 n eb off G S L) (hF : Ents w a1 m fb foff H TS TL) (hn : n ≤ 1024) (hm : m ≤ 1024) (md0 : 0 ≤ md) (md1 : md ≤ 255) (p0 : 0 ≤ oP) (p1 : oP ≤ 65535) (hsn : SinceOf md nd tr gr sN sR sG sO y0 y1 y2 y3)
    (hM : Mid w wk (p, bi, bs, bl, bt, ba) (q, ci, cs, cl, ct, ca) n G S L rs gr y0 y1 y2 y3 m H TS TL tr sN sR sG oI oP oL oA sO oH) (hI : wk.rowIs mi 23 n (fun i => .int .u64 (idOf G (i + 1)))) (hJ : wk.rowIs ti 23 m (fun i => .int .u64 (idOf H (i + 1)))) (hS : Snd wk sb nd x oL oA oH q) (hbx : Below wk.heap.size wk wx) (hws : wx.rowIs wk.heap.size 23 n (fun i => .int .u64 (S1 i))) (hwl : wx.rowIs (wk.heap.size + 1) 3 n (fun i => .int .i64 (L1 i))) (e1 : S1 = w1S (isE md nd tr gr sN sR sG sO) (fun i => idOf G (i + 1)) (fun i => idOf H (i + 1)) S TS m) (e2 : L1 = w1L (isE md nd tr gr sN sR sG sO) (fun i => idOf G (i + 1)) (fun i => idOf H (i + 1)) S TS L TL m) (e3 : r1 = w1R (isE md nd tr gr sN sR sG sO) (fun i => idOf G (i + 1)) (fun i => idOf H (i + 1)) S TS m rs n) (code : Code) (hc : Yba.f3.body.map (tailN 20) = some code) :
    Code.wp Yba.prog code (bodyPost Yba.prog Yba.f3 (fun e w' => e = .returned (.bool true) ∧ Below w.heap.size w w')) ⟨#[.slice a0 n c0, .slice a1 m c1, .int .u64 rs, .int .u64 gr, .int .u64 tr, .int .i64 nd, .int .u8 md, v7, v8, v9, v10, v11, v12, v13, v14, v15, .pointer (some ⟨w.heap.size, 0, none⟩), .pointer (some ⟨w.heap.size + 1, 0, none⟩), .bool false, .pointer (some ⟨p, 0, none⟩), .pointer (some ⟨q, 0, none⟩), .slice (some ⟨mi, 0, none⟩) n n, .slice (some ⟨ti, 0, none⟩) m m, .int .u64 x, .pointer (some ⟨sb, 0, none⟩), .int .i64 n, .slice (some ⟨wk.heap.size, 0, none⟩) n n, .slice (some ⟨wk.heap.size + 1, 0, none⟩) n n, v28, .int .u64 r1, v30, v31, v32, v33, v34, v35, v36, v37, v38, v39, v40, v41, v42, v43, v44, v45, v46, v47, v48, v49, v50, v51, v52, v53, v54, v55, v56, v57, v58, v59, v60, v61, v62, v63, v64, v65, v66, v67, v68, v69, v70, v71, v72, v73, v74, v75, v76, v77, v78, v79, v80, v81, v82, v83, v84, v85, v86, v87, v88, v89, v90, v91, v92, v93, v94, v95, v96, v97, v98, v99, v100, v101, v102, v103, v104, v105, v106, v107, v108, v109, v110, v111, v112, v113, v114, v115, v116, v117, v118, v119, v120, v121, v122, v123, v124, v125, v126, v127, v128, v129, v130, v131, v132, v133, v134, v135, v136, v137, v138, v139, v140, v141, v142, v143, v144, v145, v146, v147, v148, v149, v150, v151, v152, v153, v154, v155, v156, v157, v158, v159, v160, v161, v162, v163, v164, v165, v166, v167, v168, v169, v170, v171, v172, v173, v174, v175, v176, v177, v178, v179, v180, v181, v182, v183, v184, v185, v186, v187, v188, v189, v190, v191, v192, v193, v194, v195, v196, v197, v198, v199, v200, v201, v202, v203, v204, v205, v206, v207, v208, v209, v210, v211, v212, v213, v214, v215, v216, v217, v218, v219, v220, v221, v222, v223, v224, v225, v226, v227, v228, v229, v230, v231, v232, v233, v234, v235, v236, v237, v238, v239, v240, v241, v242, v243, v244, v245, v246, v247, v248, v249, v250, v251, v252, v253, v254, v255, v256, v257, v258, v259, v260, v261, v262, v263, v264, v265, v266, v267, v268, v269, v270, v271, v272, v273, v274, v275, v276, v277, v278, v279, v280, v281, v282, v283, v284, v285, v286, v287, v288, v289, v290, v291, v292, v293, v294, v295, v296, v297, v298, v299, v300, v301, v302, v303, v304, v305, v306, v307, v308, v309, v310, v311, v312, v313, v314, v315, v316, v317, v318, v319, v320, v321, v322, v323, v324, v325, v326, v327, v328, v329, v330, v331, v332, v333, v334, v335, v336, v337, v338, v339, v340, v341, v342, v343, v344], []⟩ wx := by
  cases hc
  conv => arg 2; whnf
  have HM : Hid (Mid w wk (p, bi, bs, bl, bt, ba) (q, ci, cs, cl, ct, ca) n G S L rs gr y0 y1 y2 y3 m H TS TL tr sN sR sG oI oP oL oA sO oH) := hM
  have HI : Hid (wk.rowIs mi 23 n (fun i => .int .u64 (idOf G (i + 1)))) := hI
  have HJ := show Hid _ from hJ
  have HS := show Hid _ from hS
  have HB : Hid (Below wk.heap.size wk wx) := hbx
  have HWS : Hid (wx.rowIs wk.heap.size 23 n (fun i => .int .u64 (S1 i))) := hws
  have HWL : Hid (wx.rowIs (wk.heap.size + 1) 3 n (fun i => .int .i64 (L1 i))) := hwl
  have H1 := show Hid _ from e1
  have H2 := show Hid _ from e2
  have H3 := show Hid _ from e3
  have HEE : Hid (Ents w a0 n eb off G S L) := hE
  have HFF : Hid (Ents w a1 m fb foff H TS TL) := hF
  have HSN := show Hid _ from hsn
  clear hM hI hJ hS hbx hws hwl hE hF hsn e1 e2 e3
  go_upto_block 6 with fail
  go_cut [29, 33, 34] (fun v _ _ wz => ∃ S2 L2 : Nat → Int, ∃ r2 : Int, v = .int .u64 r2 ∧ OwnStep (fun i => idOf G (i + 1)) n x oH oA oL S1 L1 r1 S2 L2 r2 ∧ Below wk.heap.size wk wz ∧ wz.rowIs wk.heap.size 23 n (fun i => .int .u64 (S2 i)) ∧ wz.rowIs (wk.heap.size + 1) 3 n (fun i => .int .i64 (L2 i)))
  case first =>
    have lI := HI.out.lt
    have sz := HB.out.size
    have lW := HWL.out.lt
    obtain ⟨_, _, _, _, o0, o1, o2, o3, o4⟩ := (HM.out.later HB.out).box.cells
    have lB := HM.out.box.lt
    have z1 : ¬ wk.heap.size = w.heap.size + 1 := by omega
    have z2 : ¬ w.heap.size + 1 = wk.heap.size := by omega
    have z3 : ¬ wk.heap.size + 1 = w.heap.size + 1 := by omega
    have z4 : ¬ w.heap.size + 1 = wk.heap.size + 1 := by omega
    have z5 : ¬ wk.heap.size = w.heap.size := by omega
    go_wp2_with fail
    go_loopw [29, 33] (fun v y wr => v = .int .u64 r1 ∧ wr = wx ∧ ∃ k : Nat, k ≤ n ∧ y = .int .i64 k ∧ ∀ i, i < k → idOf G (i + 1) ≠ x) (fun _ y _ => n - (intOf y).toNat)
    case atStart => exact ⟨rfl, rfl, 0, Nat.zero_le _, rfl, fun i h => by omega⟩
    case round =>
      obtain ⟨rfl, rfl, k, hk, rfl, hno⟩ := hrel
      have HNO : Hid (∀ i, i < k → idOf G (i + 1) ≠ x) := hno
      clear hno
      by_cases hlt : k < n
      · have r1' := (HI.out.of_block (HB.out.block _ lI)).cell hlt
        have r2' := HWS.out.cell hlt
        have r3' := HWL.out.cell hlt
        have f1 := HWS.out.frozen k
        have f2 := HWL.out.frozen k
        have k1 : (k : Int) < (n : Int) := by omega
        have k0 : (0 : Int) ≤ (k : Int) := by omega
        cases hx : (idOf G (k + 1) == x) with
        | false =>
          have HX : Hid (idOf G (k + 1) ≠ x) := by simpa [Hid] using hx
          go_wp2_with fail
          go_roundw
          case rel =>
            refine ⟨by simp, by simp, k + 1, by omega, by go_num, fun i hi => ?_⟩
            by_cases e : i = k
            · subst e; exact HX.out
            · exact HNO.out i (by omega)
          case measure => simp [intOf]; omega
        | true =>
          have HX : Hid (idOf G (k + 1) = x) := by simpa [Hid] using hx
          have HNONE : Hid (¬ (oH = true ∧ S1 k < IntKind.u64.wrap (oA + 1)) → OwnStep (fun i => idOf G (i + 1)) n x oH oA oL S1 L1 r1 S1 L1 r1) := by
            intro hy
            refine .inr ⟨fun j hj hxj => ?_, rfl, rfl, rfl⟩
            have hjk : j = k := by
              rcases Nat.lt_trichotomy j k with h | h | h
              · exact absurd hxj (HNO.out j h)
              · exact h
              · have h3 := idOf_lt G (show k + 1 < j + 1 by omega)
                have h4 := HX.out
                have h5 : idOf G (j + 1) = x := hxj
                omega
            subst hjk; exact hy
          cases oH with
          | false =>
            go_wp2_with fail
            go_meet
            case rel => exact ⟨S1, L1, r1, rfl, HNONE.out (by simp), HB.out, HWS.out, HWL.out⟩
          | true =>
            by_cases hs : S1 k < IntKind.u64.wrap (oA + 1)
            · go_wp2_with fail
              go_meet
              case rel =>
                exact ⟨upd S1 k (IntKind.u64.wrap (oA + 1)), upd L1 k oL, IntKind.u64.wrap (r1 + 1), rfl, .inl ⟨k, hlt, HX.out, rfl, hs, rfl, rfl, rfl⟩, own_yes HB.out (Nat.le_refl _) (by omega) (by omega) HWS.out HWL.out⟩
            · have hs' : ¬ (true = true ∧ S1 k < IntKind.u64.wrap (oA + 1)) := fun h => hs h.2
              have HS' := show Hid _ from hs'
              clear hs'
              go_wp2_with fail
              go_meet
              case rel => exact ⟨S1, L1, r1, rfl, HNONE.out HS'.out, HB.out, HWS.out, HWL.out⟩
      · have hkn : k = n := by omega
        subst hkn
        go_wp2_with fail
        go_meet
        case rel => exact ⟨S1, L1, r1, rfl, .inr ⟨fun j hj hxj => absurd hxj (HNO.out j hj), rfl, rfl, rfl⟩, HB.out, HWS.out, HWL.out⟩
  case rest =>
    obtain ⟨S2, L2, r2, rfl, hst, hb, h1, h2⟩ := hcut
    have hst' := hst
    rw [H1.out, H2.out, H3.out] at hst'
    refine ‹∀ (a : Act) (w : World), Code.wp Yba.prog _ _ a w → _› _ _ ?_
    exact t21 a0 n c0 eb off G S L a1 m c1 fb foff H TS TL rs gr tr nd md sN sR sG oI oP oL oA sO oH w p bi bs bl bt ba q ci cs cl ct ca y0 y1 y2 y3 wk wc mi ti sb x S2 L2 r2
      HEE.out HFF.out hn hm md0 md1 p0 p1 HSN.out HM.out HI.out HJ.out HS.out hb h1 h2 hst' _ rfl
end Go.Proofs.Ybulkdkrk.lawS5587AWhole
