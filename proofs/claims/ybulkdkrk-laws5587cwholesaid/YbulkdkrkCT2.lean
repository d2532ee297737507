import Derived.Test.YbulkdkrkCT5
namespace Go.Proofs.Ybulkdkrk.lawS5587CWhole
open Go.ChangeShapes Go.WideShapes Go.ChangeAt Go.RowKit Go.Proofs.Ybulkdkrk.lawS5587AWhole
set_option linter.unusedVariables false

/-- The pool as it grows: the blocks of the contacts, in order. -/
def Grow (w : World) (B : Nat) (v : Value) (bl : List Nat) (ID : Nat → Int) : Prop :=
  w.ownsRow B 53 1 v bl.length (bl.map fun c => .pointer (some ⟨c, 0, none⟩)) ∧ ∀ c ∈ bl, Known w ID c

theorem appP (w : World) (v : Value) (B : Nat) (xs : List Value) (k c : Nat) (ho : w.ownsRow B 53 1 v k xs) (hB : B ≤ w.heap.size) (hk : k ≤ 65536) :
    ∃ v' w', (Builtin.append_ #[52, 52] 52 #[v, .slice (some ⟨w.heap.size, 0, none⟩) 1 1]).run Yba.prog (w.alloc (.cells #[.pointer (some ⟨c, 0, none⟩)] 53)) = .ok v' w' ∧
      w'.ownsRow B 53 1 v' (k + 1) (xs ++ [.pointer (some ⟨c, 0, none⟩)]) ∧ Below B w w' ∧ ∀ b, b < w.heap.size → (∀ ca, w.heap[b]? = some (.cells ca 59 (0, 0)) → w'.heap[b]? = w.heap[b]?) := by
  cases hj : Yba.prog.info? 53 with
  | none => have := info53; simp [hj] at this
  | some j =>
    have hi := info53
    simp [hj] at hi
    obtain ⟨hz, hs, hby⟩ := hi
    have hb : Below w.heap.size w (w.alloc (.cells #[.pointer (some ⟨c, 0, none⟩)] 53)) := (Below.refl _ _).alloc (Nat.le_refl _) _
    obtain ⟨v', w', hr, ho', hg, _⟩ := run_append_own (P := Yba.prog) (w.alloc (.cells #[.pointer (some ⟨c, 0, none⟩)] 53)) B 52 52 53 j _ 1 8 Yba.underlying52 hj hz hs hby rfl (by decide) v k xs (ho.alloc _) ⟨w.heap.size, 0, none⟩ 1 1 [.pointer (some ⟨c, 0, none⟩)] rfl (by
        intro i u hu
        rcases i with _ | i
        · simp at hu; subst hu; simp [go_sem]
        · simp at hu)
      (fun u hu => by simp at hu; subst hu; rfl) (by unfold maxLen; omega) (by omega) (by simp; omega)
    refine ⟨v', w', hr, ho', (hb.mono hB).trans (grown_below hg (fun b hb => ((ho.alloc (.cells #[.pointer (some ⟨c, 0, none⟩)] 53)).lt b hb).1) (by simp; omega)), fun b hlt ca he => ?_⟩
    have h1 : (w.alloc (.cells #[.pointer (some ⟨c, 0, none⟩)] 53)).heap[b]? = w.heap[b]? := hb.block b hlt
    refine (hg.block b (by simp; omega) (fun hrow => ?_)).trans h1
    rcases ho.2 with ⟨rfl, _⟩ | ⟨g, cap, cur, rfl, _, hgg, _⟩
    · simp [Value.ownBlock] at hrow
    · simp [Value.ownBlock] at hrow
      subst hrow
      rw [hgg] at he
      injection he with he
      injection he with _ he
      cases he

/-- One more contact. -/
theorem Grow.push {w : World} {B : Nat} {v : Value} {bl : List Nat} {ID : Nat → Int} (h : Grow w B v bl ID) (hB : B ≤ w.heap.size) (hn : bl.length ≤ 65536) (id : Int) (ca : Array Value) (h0 : ca[0]? = some (.int .u64 id)) :
    ∃ v' w' ID', (Builtin.append_ #[52, 52] 52 #[v, .slice (some ⟨w.heap.size + 1, 0, none⟩) 1 1]).run Yba.prog ((w.alloc (.cells ca 59)).alloc (.cells #[.pointer (some ⟨w.heap.size, 0, none⟩)] 53)) = .ok v' w' ∧
      Grow w' B v' (bl ++ [w.heap.size]) ID' ∧ Below B w w' := by
  have hb1 : Below w.heap.size w (w.alloc (.cells ca 59)) := nb (Below.refl _ _) (Nat.le_refl _) _
  have hs1 : (w.alloc (.cells ca 59)).heap.size = w.heap.size + 1 := by simp
  obtain ⟨v', w', hr, ho, hb, hkeep⟩ := appP (w.alloc (.cells ca 59)) v B _ bl.length w.heap.size (h.1.alloc _) (by omega) hn
  rw [hs1] at hr
  refine ⟨v', w', fun b => if b = w.heap.size then id else ID b, hr, ⟨by simpa using ho, fun c hc => ?_⟩, (hb1.mono hB).trans hb⟩
  rcases List.mem_append.1 hc with hc | hc
  · obtain ⟨cc, he, he0⟩ := h.2 c hc
    have hlt : c < w.heap.size := (Array.getElem?_eq_some_iff.1 he).1
    have he1 : (w.alloc (.cells ca 59)).heap[c]? = some (.cells cc 59 (0, 0)) := (hb1.block c hlt).trans he
    refine ⟨cc, (hkeep c (by omega) cc he1).trans he1, ?_⟩
    show cc[0]? = some (.int .u64 (if c = w.heap.size then id else ID c))
    rw [if_neg (by omega)]
    exact he0
  · simp only [List.mem_singleton] at hc
    subst hc
    have he1 : (w.alloc (.cells ca 59)).heap[w.heap.size]? = some (.cells ca 59 (0, 0)) := Deep.blk_alloc_new _ _
    refine ⟨ca, (hkeep _ (by omega) ca he1).trans he1, ?_⟩
    show ca[0]? = some (.int .u64 (if w.heap.size = w.heap.size then id else ID w.heap.size))
    rw [if_pos rfl]
    exact h0

theorem Grow.pool {w : World} {B : Nat} {v : Value} {bl : List Nat} {ID : Nat → Int} (h : Grow w B v bl ID) (hp : 0 < bl.length) : ∃ g cap, v = .slice (some ⟨g, 0, none⟩) bl.length cap ∧ Pool w g bl.length (fun j => bl.getD j 0) ID := by
  obtain ⟨hl, h1⟩ := h.1
  rcases h1 with ⟨_, hn⟩ | ⟨g, cap, cur, rfl, hb, hg, _⟩
  · omega
  · refine ⟨g, cap, rfl, hp, fun j hj => ?_, fun j hj => ?_⟩
    · have hc := h.1.cells (g := g) rfl j (.pointer (some ⟨bl.getD j 0, 0, none⟩)) (by
        simp [List.getElem?_map, List.getElem?_eq_getElem hj, List.getD_eq_getElem?_getD])
      have hadd : (⟨g, 0, none⟩ : Addr).add j = ⟨g, j, none⟩ := by unfold Addr.add; split <;> simp_all
      rw [hadd] at hc
      exact hc
    · refine h.2 _ ?_
      rw [List.getD_eq_getElem?_getD, List.getElem?_eq_getElem hj]
      exact List.getElem_mem hj

/-- WHAT IS KNOWN OF THE IDs THAT CAME IN. -/
structure Bts (w : World) (ao : Option Addr) (n b off : Nat) (I : Nat → Nat) : Prop where
  out : 0 < n → ao = some ⟨b, off, none⟩
  lt : 0 < n → b < w.heap.size
  c : ∀ i, i < n → w.cell? ⟨b, off + i, none⟩ = some (.int .u8 (I i : Int))
  cB : ∀ i, i < n → I i ≤ 255

set_option maxRecDepth 1000000 in
set_option maxHeartbeats 8000000 in
/-- The pool. -/
theorem t2 {v6 v10 v11 v12 v13 v14 v15 v17 v18 v19 v20 v21 v22 v23 v24 v25 v26 v27 v28 v29 v30 v31 v32 v33 v34 v35 v36 v37 v38 v39 v40 v41 v42 v43 v44 v45 v46 v47 v48 v49 v50 v51 v52 v53 v54 v55 v56 v57 v58 v59 v60 v61 v62 v63 v64 v65 v66 v67 v68 v69 v70 v71 v72 v73 v74 v75 v76 v77 v78 v79 v80 v81 v82 v83 v84 v85 v86 v87 v88 v89 v90 v91 v92 v93 v94 v95 v96 v97 v98 v99 v100 v101 v102 v103 v104 v105 v106 v107 v108 v109 v110 v111 v112 v113 v114 v115 v116 v117 v118 v119 v120 v121 v122 v123 v124 v125 v126 v127 v128 v129 v130 v131 v132 v133 v134 v135 v136 v137 v138 v139 v140 v141 v142 v143 v144 v145 v146 v147 v148 v149 v150 v151 v152 v153 v154 v155 v156 v157 v158 v159 v160 v161 v162 v163 v164 v165 v166 v167 v168 v169 v170 v171 v172 v173 v174 v175 v176 v177 v178 v179 v180 v181 v182 v183 v184 v185 v186 v187 v188 v189 v190 v191 v192 v193 v194 v195 v196 v197 v198 v199 v200 v201 v202 v203 v204 v205 v206 v207 v208 v209 v210 v211 v212 v213 v214 v215 v216 v217 v218 v219 v220 v221 v222 v223 v224 v225 v226 v227 v228 v229 v230 v231 v232 v233 v234 v235 v236 v237 v238 v239 v240 v241 v242 v243 v244 v245 v246 v247 v248 v249 v250 v251 v252 v253 v254 v255 v256 v257 v258 v259 v260 v261 v262 v263 v264 v265 v266 v267 v268 v269 v270 v271 v272 v273 v274 v275 v276 v277 v278 v279 v280 v281 v282 v283 v284 v285 v286 v287 v288 v289 v290 v291 v292 v293 v294 v295 v296 v297 v298 v299 v300 v301 v302 v303 v304 v305 v306 v307 v308 v309 v310 v311 v312 v313 v314 v315 v316 v317 v318 v319 v320 v321 v322 v323 v324 v325 v326 v327 v328 v329 v330 v331 v332 v333 v334 v335 v336 : Value} (w0 w : World) (q : Nat) (a0 : Option Addr) (n0 c0 b0 o0 : Nat) (I0 : Nat → Nat) (h0 : Bts w0 a0 n0 b0 o0 I0) (hn0 : n0 ≤ 65536) (nd xb : Nat) (ll : Int) (two ss : Bool) (pC : Nat) (pN pK : Int) (hbel : Below w0.heap.size w0 w) (hq : w0.heap.size ≤ q ∧ q < w.heap.size) (q0 : w.cell? ⟨q, 0, none⟩ = some (.int .u8 (pC : Int))) (q1 : w.cell? ⟨q, 1, none⟩ = some (.int .i64 pN)) (q2 : w.cell? ⟨q, 2, none⟩ = some (.int .i64 pK)) (hcB : pC ≤ 255) (hnd : nd ≤ 255) (hxb : xb ≤ 255) (hl0 : -9223372036854775808 ≤ ll) (hl1 : ll ≤ 9223372036854775807)
    (a7 : Option Addr) (n7 c7 b7 o7 : Nat) (C7 : Nat → Nat) (N7 K7 : Nat → Int) (h7 : Src w0 a7 n7 b7 o7 C7 N7 K7) (hn7 : n7 ≤ 65536) (a8 : Option Addr) (n8 c8 b8 o8 : Nat) (C8 : Nat → Nat) (N8 K8 : Nat → Int) (h8 : Src w0 a8 n8 b8 o8 C8 N8 K8) (hn8 : n8 ≤ 65536) (a9 : Option Addr) (n9 c9 b9 o9 : Nat) (C9 : Nat → Nat) (N9 K9 : Nat → Int) (h9 : Src w0 a9 n9 b9 o9 C9 N9 K9) (hn9 : n9 ≤ 65536) (code : Code) (hc : Yba.f4.body.map (tailN 2) = some code) :
    Code.wp Yba.prog code (bodyPost Yba.prog Yba.f4 (fun e w' => e = .returned (.bool true) ∧ Below w0.heap.size w0 w')) ⟨#[.slice a0 n0 c0, .int .u8 (nd : Int), .int .u8 (xb : Int), .int .i64 ll, .bool two, .bool ss, v6, .slice a7 n7 c7, .slice a8 n8 c8, .slice a9 n9 c9, v10, v11, v12, v13, v14, v15, .pointer (some ⟨q, 0, none⟩), v17, v18, v19, v20, v21, v22, v23, v24, v25, v26, v27, v28, v29, v30, v31, v32, v33, v34, v35, v36, v37, v38, v39, v40, v41, v42, v43, v44, v45, v46, v47, v48, v49, v50, v51, v52, v53, v54, v55, v56, v57, v58, v59, v60, v61, v62, v63, v64, v65, v66, v67, v68, v69, v70, v71, v72, v73, v74, v75, v76, v77, v78, v79, v80, v81, v82, v83, v84, v85, v86, v87, v88, v89, v90, v91, v92, v93, v94, v95, v96, v97, v98, v99, v100, v101, v102, v103, v104, v105, v106, v107, v108, v109, v110, v111, v112, v113, v114, v115, v116, v117, v118, v119, v120, v121, v122, v123, v124, v125, v126, v127, v128, v129, v130, v131, v132, v133, v134, v135, v136, v137, v138, v139, v140, v141, v142, v143, v144, v145, v146, v147, v148, v149, v150, v151, v152, v153, v154, v155, v156, v157, v158, v159, v160, v161, v162, v163, v164, v165, v166, v167, v168, v169, v170, v171, v172, v173, v174, v175, v176, v177, v178, v179, v180, v181, v182, v183, v184, v185, v186, v187, v188, v189, v190, v191, v192, v193, v194, v195, v196, v197, v198, v199, v200, v201, v202, v203, v204, v205, v206, v207, v208, v209, v210, v211, v212, v213, v214, v215, v216, v217, v218, v219, v220, v221, v222, v223, v224, v225, v226, v227, v228, v229, v230, v231, v232, v233, v234, v235, v236, v237, v238, v239, v240, v241, v242, v243, v244, v245, v246, v247, v248, v249, v250, v251, v252, v253, v254, v255, v256, v257, v258, v259, v260, v261, v262, v263, v264, v265, v266, v267, v268, v269, v270, v271, v272, v273, v274, v275, v276, v277, v278, v279, v280, v281, v282, v283, v284, v285, v286, v287, v288, v289, v290, v291, v292, v293, v294, v295, v296, v297, v298, v299, v300, v301, v302, v303, v304, v305, v306, v307, v308, v309, v310, v311, v312, v313, v314, v315, v316, v317, v318, v319, v320, v321, v322, v323, v324, v325, v326, v327, v328, v329, v330, v331, v332, v333, v334, v335, v336], []⟩ w := by
  cases hc
  conv => arg 2; whnf
  have H0 : Hid (Bts w0 a0 n0 b0 o0 I0) := h0
  have H7 : Hid (Src w0 a7 n7 b7 o7 C7 N7 K7) := h7
  have H8 : Hid (Src w0 a8 n8 b8 o8 C8 N8 K8) := h8
  have H9 : Hid (Src w0 a9 n9 b9 o9 C9 N9 K9) := h9
  have HQ : Hid (w.cell? ⟨q, 0, none⟩ = some (.int .u8 (pC : Int)) ∧ w.cell? ⟨q, 1, none⟩ = some (.int .i64 pN) ∧ w.cell? ⟨q, 2, none⟩ = some (.int .i64 pK)) := ⟨q0, q1, q2⟩
  have HBel : Hid (Below w0.heap.size w0 w) := hbel
  have lw : w0.heap.size ≤ w.heap.size := hbel.size
  clear h0 h7 h8 h9 q0 q1 q2 hbel
  refine wp_seq_k ?_
  intro K hK
  have HK := show Hid _ from hK
  clear hK
  go_wp2_with fail
  refine HK.out _ _ ?_
  clear HK K
  refine wp_seq_k ?_
  intro K1 hK1
  have HK1 := show Hid _ from hK1
  clear hK1
  go_wp2_with fail
  go_loopw [21, 57] (fun v i wr => ∃ (k : Nat) (bl : List Nat) (ID : Nat → Int), k ≤ n0 ∧ i = .int .i64 k ∧ bl.length = k ∧ Grow wr w.heap.size v bl ID ∧ Below w.heap.size w wr) (fun _ i _ => n0 - (intOf i).toNat)
  case atStart => exact ⟨0, [], fun _ => 0, Nat.zero_le _, rfl, rfl, ⟨World.ownsRow_nil _ _ _ _, fun c hc => by simp at hc⟩, Below.refl _ _⟩
  case round =>
    obtain ⟨k, bl, ID, hk, rfl, hbl, hgr, hb⟩ := hrel
    have HG : Hid (Grow wr w.heap.size u21 bl ID) := hgr
    have HB : Hid (Below w.heap.size w wr) := hb
    have HBL : Hid (bl.length = k) := hbl
    have lz : w.heap.size ≤ wr.heap.size := hb.size
    by_cases hlt : k < n0
    · have e := H0.out.out (by omega)
      cases e
      have lb := H0.out.lt (by omega)
      have hb0 : Below w0.heap.size w0 wr := HBel.out.trans (hb.mono lw)
      have d0 := (hb0.cell (p := ⟨b0, o0 + k, none⟩) lb).trans (H0.out.c k hlt)
      have cb := H0.out.cB k hlt
      obtain ⟨ck, hck⟩ : ∃ ck, I0 k = ck := ⟨_, rfl⟩
      rw [hck] at d0 cb
      obtain ⟨v', w', ID', hrun, hG', hB'⟩ := hgr.push lz (by omega) (ck : Int) #[.int .u64 (ck : Int), .float .f64 4607182418800017408, .slice none 0 0, .int .i64 0, .int .u64 0, .int .u64 0] rfl
      have HG' : Hid (Grow w' w.heap.size v' (bl ++ [wr.heap.size]) ID') := hG'
      have HB' : Hid (Below w.heap.size wr w') := hB'
      have HK2 : Hid (k < n0) := hlt
      clear hgr hb hbl hG' hB' hb0 hck
      go_wp2_with (at_builtin; refine wpList_append_run 52 hrun rfl _ _ rfl rfl rfl rfl ?_)
      go_roundw
      case rel => exact ⟨k + 1, bl ++ [wr.heap.size], ID', by have := HK2.out; omega, by go_num, by simp [HBL.out], HG'.out, HB.out.trans HB'.out⟩
      case measure => have := HK2.out; simp [intOf]; omega
    · have hkn : k = n0 := by omega
      subst hkn
      clear hlt hgr hb hbl
      go_wp2_with fail
      refine HK1.out _ _ ?_
      clear HK1
      refine wp_seq_k ?_
      intro K hK
      have HK := show Hid _ from hK
      clear hK
      have fin : ∀ (v : Value) (bl : List Nat) (ID : Nat → Int) (wz : World), Grow wz w.heap.size v bl ID → Below w.heap.size w wz → 0 < bl.length → ∃ g cap, v = .slice (some ⟨g, 0, none⟩) bl.length cap ∧ Pre2 w0 wz ID q pC pN pK g bl.length (fun j => bl.getD j 0) := by
        intro v bl ID wz hg hb hp
        obtain ⟨g, cap, e, hpl⟩ := hg.pool hp
        exact ⟨g, cap, e, HBel.out.trans (hb.mono lw), hpl, (hb.cell hq.2).trans HQ.out.1, (hb.cell hq.2).trans HQ.out.2.1, (hb.cell hq.2).trans HQ.out.2.2, hcB⟩
      have HFin := show Hid _ from fin
      clear fin
      rcases Nat.eq_zero_or_pos k with hk0 | hkp
      · have hnil : bl = [] := List.eq_nil_of_length_eq_zero (HBL.out.trans hk0)
        subst hnil
        have hv : u21 = .slice none 0 0 ∨ ∃ a cap, u21 = .slice (some a) 0 cap := by
          rcases HG.out.1.2 with ⟨h, _⟩ | ⟨g, cap, cur, h, _⟩
          · exact .inl h
          · exact .inr ⟨_, cap, h⟩
        obtain ⟨v', w', ID', hrun, hG', hB'⟩ := HG.out.push lz (by simp) 0 #[.int .u64 0, .float .f64 4607182418800017408, .slice none 0 0, .int .i64 0, .int .u64 0, .int .u64 0] rfl
        obtain ⟨g, cap, e, hpre⟩ := HFin.out v' _ ID' w' hG' (HB.out.trans hB') (by simp)
        have HPre : Hid (Pre2 w0 w' ID' q pC pN pK g 1 (fun j => [wr.heap.size].getD j 0)) := hpre
        clear hpre hG' hB'
        subst e
        rcases hv with rfl | ⟨aa, cc, rfl⟩
        · go_wp2_with (at_builtin; refine wpList_append_run 52 hrun rfl _ _ rfl rfl rfl rfl ?_)
          refine HK.out _ _ ?_
          exact t5 w0 w' ID' q nd xb ll two ss pC pN pK g 1 cap _ HPre.out hnd hxb hl0 hl1 (by omega) a7 n7 c7 b7 o7 C7 N7 K7 H7.out hn7 a8 n8 c8 b8 o8 C8 N8 K8 H8.out hn8 a9 n9 c9 b9 o9 C9 N9 K9 H9.out hn9 _ rfl
        · go_wp2_with (at_builtin; refine wpList_append_run 52 hrun rfl _ _ rfl rfl rfl rfl ?_)
          refine HK.out _ _ ?_
          exact t5 w0 w' ID' q nd xb ll two ss pC pN pK g 1 cap _ HPre.out hnd hxb hl0 hl1 (by omega) a7 n7 c7 b7 o7 C7 N7 K7 H7.out hn7 a8 n8 c8 b8 o8 C8 N8 K8 H8.out hn8 a9 n9 c9 b9 o9 C9 N9 K9 H9.out hn9 _ rfl
      · obtain ⟨g, cap, e, hpre⟩ := HFin.out u21 bl ID wr HG.out HB.out (by rw [HBL.out]; exact hkp)
        rw [HBL.out] at e hpre
        have HPre : Hid (Pre2 w0 wr ID q pC pN pK g k (fun j => bl.getD j 0)) := hpre
        clear hpre
        subst e
        have hk9 : ((k : Int) == 0) = false := by simp; omega
        go_wp2_with fail
        refine HK.out _ _ ?_
        exact t5 w0 wr ID q nd xb ll two ss pC pN pK g k cap _ HPre.out hnd hxb hl0 hl1 (by omega) a7 n7 c7 b7 o7 C7 N7 K7 H7.out hn7 a8 n8 c8 b8 o8 C8 N8 K8 H8.out hn8 a9 n9 c9 b9 o9 C9 N9 K9 H9.out hn9 _ rfl
end Go.Proofs.Ybulkdkrk.lawS5587CWhole
