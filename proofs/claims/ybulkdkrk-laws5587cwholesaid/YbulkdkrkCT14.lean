import Derived.Test.YbulkdkrkCT17
namespace Go.Proofs.Ybulkdkrk.lawS5587CWhole
open Go.ChangeShapes Go.WideShapes Go.ChangeAt Go.RowKit Go.Proofs.Ybulkdkrk.lawS5587AWhole
set_option linter.unusedVariables false

def z12 : Array Value := #[.int .i64 0, .pointer none, .int .i64 0, .slice none 0 0, .slice none 0 0, .slice none 0 0, .bool false, .pointer none, .bool false, .slice none 0 0, .slice none 0 0, .slice none 0 0]
def z9 : Array Value := #[.int .u64 0, .bool false, .int .u64 0, .float .f64 0, .pointer none, .slice none 0 0, .slice none 0 0, .slice none 0 0, .slice none 0 0]
def z2 : Array Value := #[.int .u64 0, .float .f64 0]
theorem info56 : (Yba.prog.info? 56).map (fun i => (i.zero, i.size, i.bytes)) = some (some (.agg z2), 2, 16) := by kernel_rfl
theorem info67 : (Yba.prog.info? 67).map (fun i => (i.zero, i.size, i.bytes)) = some (some (.agg z12), 12, 192) := by kernel_rfl
theorem info125 : (Yba.prog.info? 125).map (fun i => (i.zero, i.size, i.bytes)) = some (some (.agg z9), 9, 136) := by kernel_rfl

theorem makeN {t e : TypeId} {z : Array Value} {size bytes : Nat} (n : Nat) (ht : Yba.prog.underlying t = some (.slice e)) (hi : (Yba.prog.info? e).map (fun i => (i.zero, i.size, i.bytes)) = some (some (.agg z), size, bytes)) (hz : (Value.agg z).cells = z) (hn : n ≤ 8) (hb : bytes ≤ 1000) (w : World) :
    (Instr.makeSlice t (.int .i64 (n : Int)) (.int .i64 (n : Int))).run Yba.prog w = .ok (.slice (some ⟨w.heap.size, 0, none⟩) n n) (w.alloc (.cells (madeCells z (n * size)) e)) := by
  cases hj : Yba.prog.info? e with
  | none => simp [hj] at hi
  | some j =>
    simp [hj] at hi
    obtain ⟨h1, hs, hby⟩ := hi
    have hbn : bytes * n ≤ 1000 * 8 := Nat.mul_le_mul hb hn
    have hbi : (j.bytes : Int) * (n : Int) ≤ 281474976710656 := by
      rw [hby]
      have h8 : ((bytes * n : Nat) : Int) ≤ 8000 := by omega
      rw [Int.natCast_mul] at h8
      omega
    have h := run_make (P := Yba.prog) w t e j _ ht hj h1 .i64 .i64 (n : Int) (n : Int) (by omega) (by omega) hbi (by omega)
    rw [hs, hz] at h
    simp only [Int.toNat_natCast] at h
    exact h

theorem rowIs_madeN (w : World) (z : Array Value) (N : Nat) (t : TypeId) : (w.alloc (.cells (madeCells z N) t)).rowIs w.heap.size t N (fun i => z[i % z.size]!) := by
  refine ⟨_, Deep.blk_alloc_new _ _, size_madeCells _ _, fun i hi => ?_⟩
  simp [madeCells, hi]

/-- The pool's entry that a number of 0 .. 255 picks. -/
theorem pick_mod {m : Nat} (hm : 0 < m) (c : Nat) : ∃ q, c % m = q ∧ q < m ∧ ((c : Int)).tmod (m : Int) = (q : Int) :=
  ⟨_, rfl, Nat.mod_lt _ hm, (Int.ofNat_tmod _ _).symm⟩

/-- What is laid out ahead of the ring. -/
structure Pre (w0 w : World) (ID : Nat → Int) (Pb Tb q n x : Nat) (X : Int) (cp : Nat) (pC : Nat) (pN pK : Int) (vS vP : Value) (S P : List H) (g m : Nat) (cs : Nat → Nat) : Prop where
  bel : Below w0.heap.size w0 w
  lt : x < n
  n8 : n ≤ 8
  pool : Pool w g m cs ID
  p0 : w.cell? ⟨Pb, x * 2, none⟩ = some (.int .u64 X)
  p1 : w.cell? ⟨Pb, x * 2 + 1, none⟩ = some (.float .f64 cp)
  row : w.rowIs Tb 67 (n * 12) (fun i => z12[i % z12.size]!)
  gT : w0.heap.size ≤ Tb
  nT : Tb ≠ Pb
  nG : Tb ≠ g
  hS : Hs w w0.heap.size vS S
  hP : Hs w w0.heap.size vP P
  lS : S.length ≤ 65536
  lP : P.length ≤ 65536
  q0 : w.cell? ⟨q, 0, none⟩ = some (.int .u8 (pC : Int))
  q1 : w.cell? ⟨q, 1, none⟩ = some (.int .i64 pN)
  q2 : w.cell? ⟨q, 2, none⟩ = some (.int .i64 pK)
  ids : Ids w ID (S ++ P)
  cB : pC ≤ 255

/-- What the operations of the region hand on. -/
def exP (q g m cap pC pk ck : Nat) (pN pK : Int) : Nat → Value
  | 0 => .pointer (some ⟨q, 1, none⟩)
  | 1 => .int .i64 pN
  | 2 => .slice (some ⟨g, 0, none⟩) m cap
  | 3 => .pointer (some ⟨q, 0, none⟩)
  | 4 => .int .u8 (pC : Int)
  | 5 => .int .i64 (pC : Int)
  | 6 => .slice (some ⟨g, 0, none⟩) m cap
  | 7 => .int .i64 (m : Int)
  | 8 => .int .i64 (pk : Int)
  | 9 => .pointer (some ⟨g, pk, none⟩)
  | 10 => .pointer (some ⟨ck, 0, none⟩)
  | 11 => .pointer (some ⟨q, 2, none⟩)
  | 12 => .int .i64 pK
  | 13 => .agg #[.int .i64 pN, .pointer (some ⟨ck, 0, none⟩), .int .i64 pK]
  | _ => undef

set_option maxRecDepth 100000 in
/-- The law's frame inside the region that builds the predecessor. -/
def frP (two ss : Bool) (a9 : Option Addr) (n9 c9 q g m cap n x l Pb Tb : Nat) (vS vP : Value) (v0 v1 v2 v3 v6 v7 v8 v10 v11 v12 v13 v14 v15 v17 v18 v19 v20 v22 v23 v28 v33 v34 v35 v36 v37 v38 v39 v40 v41 v42 v43 v44 v45 v46 v47 v48 v49 v50 v51 v52 v53 v54 v55 v56 v57 v58 v59 v60 v61 v62 v63 v64 v65 v66 v67 v68 v69 v70 v71 v72 v73 v74 v75 v76 v77 v78 v79 v80 v81 v82 v83 v84 v85 v86 v87 v88 v89 v90 v91 v92 v93 v94 v95 v96 v97 v98 v99 v100 v101 v102 v103 v104 v105 v106 v107 v108 v109 v110 v111 v112 v113 v114 v115 v116 v117 v118 v119 v120 v121 v122 v123 v138 v139 v140 v141 v142 v143 v144 v145 v146 v147 v148 v149 v150 v151 v152 v153 v154 v155 v156 v157 v158 v159 v160 v161 v162 v163 v164 v165 v166 v167 v168 v169 v170 v171 v172 v173 v174 v175 v176 v177 v178 v179 v180 v181 v182 v183 v184 v185 v186 v187 v188 v189 v190 v191 v192 v193 v194 v195 v196 v197 v198 v199 v200 v201 v202 v203 v204 v205 v206 v207 v208 v209 v210 v211 v212 v213 v214 v215 v216 v217 v218 v219 v220 v221 v222 v223 v224 v225 v226 v227 v228 v229 v230 v231 v232 v233 v234 v235 v236 v237 v238 v239 v240 v241 v242 v243 v244 v245 v246 v247 v248 v249 v250 v251 v252 v253 v254 v255 v256 v257 v258 v259 v260 v261 v262 v263 v264 v265 v266 v267 v268 v269 v270 v271 v272 v273 v274 v275 v276 v277 v278 v279 v280 v281 v282 v283 v284 v285 v286 v287 v288 v289 v290 v291 v292 v293 v294 v295 v296 v297 v298 v299 v300 v301 v302 v303 v304 v305 v306 v307 v308 v309 v310 v311 v312 v313 v314 v315 v316 v317 v318 v319 v320 v321 v322 v323 v324 v325 v326 v327 v328 v329 v330 v331 v332 v333 v334 v335 v336 : Value) (u : Nat → Value) : Act := ⟨#[v0, v1, v2, v3, .bool two, .bool ss, v6, v7, v8, .slice a9 n9 c9, v10, v11, v12, v13, v14, v15, .pointer (some ⟨q, 0, none⟩), v17, v18, v19, v20, .slice (some ⟨g, 0, none⟩) m cap, v22, v23, .int .i64 n, .int .i64 x, .int .i64 l, .slice (some ⟨Pb, 0, none⟩) n n, v28, .slice (some ⟨Tb, 0, none⟩) n n, vS, vP, u 32, v33, v34, v35, v36, v37, v38, v39, v40, v41, v42, v43, v44, v45, v46, v47, v48, v49, v50, v51, v52, v53, v54, v55, v56, v57, v58, v59, v60, v61, v62, v63, v64, v65, v66, v67, v68, v69, v70, v71, v72, v73, v74, v75, v76, v77, v78, v79, v80, v81, v82, v83, v84, v85, v86, v87, v88, v89, v90, v91, v92, v93, v94, v95, v96, v97, v98, v99, v100, v101, v102, v103, v104, v105, v106, v107, v108, v109, v110, v111, v112, v113, v114, v115, v116, v117, v118, v119, v120, v121, v122, v123, u 124, u 125, u 126, u 127, u 128, u 129, u 130, u 131, u 132, u 133, u 134, u 135, u 136, u 137, v138, v139, v140, v141, v142, v143, v144, v145, v146, v147, v148, v149, v150, v151, v152, v153, v154, v155, v156, v157, v158, v159, v160, v161, v162, v163, v164, v165, v166, v167, v168, v169, v170, v171, v172, v173, v174, v175, v176, v177, v178, v179, v180, v181, v182, v183, v184, v185, v186, v187, v188, v189, v190, v191, v192, v193, v194, v195, v196, v197, v198, v199, v200, v201, v202, v203, v204, v205, v206, v207, v208, v209, v210, v211, v212, v213, v214, v215, v216, v217, v218, v219, v220, v221, v222, v223, v224, v225, v226, v227, v228, v229, v230, v231, v232, v233, v234, v235, v236, v237, v238, v239, v240, v241, v242, v243, v244, v245, v246, v247, v248, v249, v250, v251, v252, v253, v254, v255, v256, v257, v258, v259, v260, v261, v262, v263, v264, v265, v266, v267, v268, v269, v270, v271, v272, v273, v274, v275, v276, v277, v278, v279, v280, v281, v282, v283, v284, v285, v286, v287, v288, v289, v290, v291, v292, v293, v294, v295, v296, v297, v298, v299, v300, v301, v302, v303, v304, v305, v306, v307, v308, v309, v310, v311, v312, v313, v314, v315, v316, v317, v318, v319, v320, v321, v322, v323, v324, v325, v326, v327, v328, v329, v330, v331, v332, v333, v334, v335, v336], []⟩

/-- What holds at every moment of the region. -/
structure Gp (w : World) (q g m cap pC pk ck : Nat) (pN pK : Int) (d : Nat → Bool) (u : Nat → Value) (w' : World) : Prop where
  bel : Below w.heap.size w w'
  sz0 : d 14 = false → w'.heap.size = w.heap.size
  val : ∀ i, i < 14 → d i = true → u (124 + i) = exP q g m cap pC pk ck pN pK i
  a14 : d 14 = true → u 32 = .pointer (some ⟨w.heap.size, 0, none⟩) ∧ w'.heap.size = w.heap.size + 1 ∧ ∃ r, w'.rowIs w.heap.size 64 3 r
  a15 : d 15 = true → w'.cell? ⟨w.heap.size, 0, none⟩ = some (.int .i64 pN) ∧ w'.cell? ⟨w.heap.size, 1, none⟩ = some (.pointer (some ⟨ck, 0, none⟩)) ∧ w'.cell? ⟨w.heap.size, 2, none⟩ = some (.int .i64 pK)
  o15 : d 15 = true → d 14 = true
section
variable {w w' : World} {q g m cap pC pk ck : Nat} {pN pK : Int} {d : Nat → Bool} {u : Nat → Value}
theorem Gp.put (h : Gp w q g m cap pC pk ck pN pK d u w') (i : Nat) (hi : i < 14) {v : Value} (hv : v = exP q g m cap pC pk ck pN pK i) : Gp w q g m cap pC pk ck pN pK (fun j => decide (j = i) || d j) (setU u (124 + i) v) w' where
  bel := h.bel
  sz0 := fun hd => h.sz0 (by have : ¬ 14 = i := by omega
                             simpa [this] using hd)
  val := fun j hj hd => by
    unfold setU
    by_cases e : j = i
    · subst e; rw [if_pos rfl]; exact hv
    · rw [if_neg (by omega)]
      exact h.val j hj (by simpa [e] using hd)
  a14 := fun hd => by
    have : ¬ 14 = i := by omega
    obtain ⟨e, r⟩ := h.a14 (by simpa [this] using hd)
    exact ⟨by unfold setU; rw [if_neg (by omega)]; exact e, r⟩
  a15 := fun hd => h.a15 (by have : ¬ 15 = i := by omega
                             simpa [this] using hd)
  o15 := fun hd => by
    have h1 : ¬ 15 = i := by omega
    have := h.o15 (by simpa [h1] using hd)
    simp [this]
theorem Gp.put14 (h : Gp w q g m cap pC pk ck pN pK d u w') (hd : d 14 = false) (z : Array Value) (hz : z.size = 3) : Gp w q g m cap pC pk ck pN pK (fun j => decide (j = 14) || d j) (setU u 32 (.pointer (some ⟨w.heap.size, 0, none⟩))) (w'.alloc (.cells z 64)) where
  bel := h.bel.alloc h.bel.size _
  sz0 := fun hd => by simp at hd
  val := fun j hj hd => by
    unfold setU
    rw [if_neg (by omega)]
    exact h.val j hj (by have : ¬ j = 14 := by omega
                         simpa [this] using hd)
  a14 := fun _ => by
    have hs := h.sz0 hd
    refine ⟨by simp [setU], by simp [hs], fun i => z.getD i default, ?_⟩
    rw [← hs]
    refine ⟨z, Deep.blk_alloc_new _ _, hz, fun i hi => ?_⟩
    simp [Array.getD, hz, hi]
  a15 := fun h1 => by have := h.o15 (by simpa using h1); rw [hd] at this; cases this
  o15 := fun _ => by simp
theorem Gp.put15 (h : Gp w q g m cap pC pk ck pN pK d u w') (hd : d 14 = true) {w2 : World} (hw : w2 = ((w'.setCell ⟨w.heap.size, 0, none⟩ (.int .i64 pN)).setCell ⟨w.heap.size, 1, none⟩ (.pointer (some ⟨ck, 0, none⟩))).setCell ⟨w.heap.size, 2, none⟩ (.int .i64 pK)) : Gp w q g m cap pC pk ck pN pK (fun j => decide (j = 15) || d j) u w2 where
  bel := by subst hw; exact ((h.bel.setCell (Nat.le_refl _) _).setCell (Nat.le_refl _) _).setCell (Nat.le_refl _) _
  sz0 := fun h1 => by simp at h1; rw [hd] at h1; cases h1
  val := fun j hj h1 => h.val j hj (by have : ¬ j = 15 := by omega
                                       simpa [this] using h1)
  a14 := fun _ => by
    obtain ⟨e, hs, r, hr⟩ := h.a14 hd
    subst hw
    exact ⟨e, by simpa using hs, _, ((hr.set 0 _).set 1 _).set 2 _⟩
  a15 := fun _ => by
    obtain ⟨e, hs, r, hr⟩ := h.a14 hd
    subst hw
    have hr' := ((hr.set 0 (.int .i64 pN)).set 1 (.pointer (some ⟨ck, 0, none⟩))).set 2 (.int .i64 pK)
    exact ⟨(hr'.cell (by omega)).trans rfl, (hr'.cell (by omega)).trans rfl, (hr'.cell (by omega)).trans rfl⟩
  o15 := fun _ => by simp [hd]
end

set_option maxRecDepth 1000000 in
set_option maxHeartbeats 8000000 in
/-- The predecessor, node x's table, the ring. -/
theorem t14 {v0 v1 v2 v3 v6 v7 v8 v10 v11 v12 v13 v14 v15 v17 v18 v19 v20 v22 v23 v28 v32 v33 v34 v35 v36 v37 v38 v39 v40 v41 v42 v43 v44 v45 v46 v47 v48 v49 v50 v51 v52 v53 v54 v55 v56 v57 v58 v59 v60 v61 v62 v63 v64 v65 v66 v67 v68 v69 v70 v71 v72 v73 v74 v75 v76 v77 v78 v79 v80 v81 v82 v83 v84 v85 v86 v87 v88 v89 v90 v91 v92 v93 v94 v95 v96 v97 v98 v99 v100 v101 v102 v103 v104 v105 v106 v107 v108 v109 v110 v111 v112 v113 v114 v115 v116 v117 v118 v119 v120 v121 v122 v123 v124 v125 v126 v127 v128 v129 v130 v131 v132 v133 v134 v135 v136 v137 v138 v139 v140 v141 v142 v143 v144 v145 v146 v147 v148 v149 v150 v151 v152 v153 v154 v155 v156 v157 v158 v159 v160 v161 v162 v163 v164 v165 v166 v167 v168 v169 v170 v171 v172 v173 v174 v175 v176 v177 v178 v179 v180 v181 v182 v183 v184 v185 v186 v187 v188 v189 v190 v191 v192 v193 v194 v195 v196 v197 v198 v199 v200 v201 v202 v203 v204 v205 v206 v207 v208 v209 v210 v211 v212 v213 v214 v215 v216 v217 v218 v219 v220 v221 v222 v223 v224 v225 v226 v227 v228 v229 v230 v231 v232 v233 v234 v235 v236 v237 v238 v239 v240 v241 v242 v243 v244 v245 v246 v247 v248 v249 v250 v251 v252 v253 v254 v255 v256 v257 v258 v259 v260 v261 v262 v263 v264 v265 v266 v267 v268 v269 v270 v271 v272 v273 v274 v275 v276 v277 v278 v279 v280 v281 v282 v283 v284 v285 v286 v287 v288 v289 v290 v291 v292 v293 v294 v295 v296 v297 v298 v299 v300 v301 v302 v303 v304 v305 v306 v307 v308 v309 v310 v311 v312 v313 v314 v315 v316 v317 v318 v319 v320 v321 v322 v323 v324 v325 v326 v327 v328 v329 v330 v331 v332 v333 v334 v335 v336 : Value} (w0 w : World) (ID : Nat → Int) (Pb Tb q n x : Nat) (X : Int) (l cp : Nat) (two ss : Bool) (pC : Nat) (pN pK : Int) (vS vP : Value) (S P : List H) (g m cap : Nat) (cs : Nat → Nat) (hR : Pre w0 w ID Pb Tb q n x X cp pC pN pK vS vP S P g m cs) (hl : l ≤ 9223372036854775807)
    (hm : m ≤ 65537) (a9 : Option Addr) (n9 c9 b9 o9 : Nat) (C9 : Nat → Nat) (N9 K9 : Nat → Int) (h9 : Src w0 a9 n9 b9 o9 C9 N9 K9) (hn9 : n9 ≤ 65536) (code : Code) (hc : Yba.f4.body.map (tailN 14) = some code) :
    Code.wp Yba.prog code (bodyPost Yba.prog Yba.f4 (fun e w' => e = .returned (.bool true) ∧ Below w0.heap.size w0 w')) ⟨#[v0, v1, v2, v3, .bool two, .bool ss, v6, v7, v8, .slice a9 n9 c9, v10, v11, v12, v13, v14, v15, .pointer (some ⟨q, 0, none⟩), v17, v18, v19, v20, .slice (some ⟨g, 0, none⟩) m cap, v22, v23, .int .i64 n, .int .i64 x, .int .i64 l, .slice (some ⟨Pb, 0, none⟩) n n, v28, .slice (some ⟨Tb, 0, none⟩) n n, vS, vP, v32, v33, v34, v35, v36, v37, v38, v39, v40, v41, v42, v43, v44, v45, v46, v47, v48, v49, v50, v51, v52, v53, v54, v55, v56, v57, v58, v59, v60, v61, v62, v63, v64, v65, v66, v67, v68, v69, v70, v71, v72, v73, v74, v75, v76, v77, v78, v79, v80, v81, v82, v83, v84, v85, v86, v87, v88, v89, v90, v91, v92, v93, v94, v95, v96, v97, v98, v99, v100, v101, v102, v103, v104, v105, v106, v107, v108, v109, v110, v111, v112, v113, v114, v115, v116, v117, v118, v119, v120, v121, v122, v123, v124, v125, v126, v127, v128, v129, v130, v131, v132, v133, v134, v135, v136, v137, v138, v139, v140, v141, v142, v143, v144, v145, v146, v147, v148, v149, v150, v151, v152, v153, v154, v155, v156, v157, v158, v159, v160, v161, v162, v163, v164, v165, v166, v167, v168, v169, v170, v171, v172, v173, v174, v175, v176, v177, v178, v179, v180, v181, v182, v183, v184, v185, v186, v187, v188, v189, v190, v191, v192, v193, v194, v195, v196, v197, v198, v199, v200, v201, v202, v203, v204, v205, v206, v207, v208, v209, v210, v211, v212, v213, v214, v215, v216, v217, v218, v219, v220, v221, v222, v223, v224, v225, v226, v227, v228, v229, v230, v231, v232, v233, v234, v235, v236, v237, v238, v239, v240, v241, v242, v243, v244, v245, v246, v247, v248, v249, v250, v251, v252, v253, v254, v255, v256, v257, v258, v259, v260, v261, v262, v263, v264, v265, v266, v267, v268, v269, v270, v271, v272, v273, v274, v275, v276, v277, v278, v279, v280, v281, v282, v283, v284, v285, v286, v287, v288, v289, v290, v291, v292, v293, v294, v295, v296, v297, v298, v299, v300, v301, v302, v303, v304, v305, v306, v307, v308, v309, v310, v311, v312, v313, v314, v315, v316, v317, v318, v319, v320, v321, v322, v323, v324, v325, v326, v327, v328, v329, v330, v331, v332, v333, v334, v335, v336], []⟩ w := by
  cases hc
  conv => arg 2; whnf
  have HR : Hid (Pre w0 w ID Pb Tb q n x X cp pC pN pK vS vP S P g m cs) := hR
  have H9 : Hid (Src w0 a9 n9 b9 o9 C9 N9 K9) := h9
  obtain ⟨_, hx, hn8, hpool, p0, p1, hrow, hgT, _, _, hS, hP, _, _, q0, q1, q2, _, hcB⟩ := hR
  have hm0 := hpool.pos
  have lg := hpool.lt
  have lq : q < w.heap.size := World.block_lt_of_cell? w _ q0
  obtain ⟨pk, hpk, hpm, hmod⟩ := pick_mod hm0 pC
  have HPK : Hid (pC % m = pk) := hpk
  have pc := hpool.cell pk hpm
  have HKn : Hid (Known w ID (cs pk)) := hpool.known pk hpm
  obtain ⟨aS, cS, gS, eS, _⟩ := hS.open
  obtain ⟨aP, cP, gP, eP, _⟩ := hP.open
  subst eS eP
  generalize hck : cs pk = ck at *
  clear h9 hpool hrow hS hP p0 p1 hpk
  have i2 : (pk : Int) < (m : Int) := by omega
  have i4 : ¬ m = 0 := by omega
  have i5 : IntKind.i64.wrap (pC : Int) = pC := by rw [IntKind.wrap_i64]; omega
  refine wp_seq_k ?_
  intro K hK
  have HK := show Hid _ from hK
  clear hK
  refine wp_region_inv cmixed (back_of (by kernel_rfl)) (fun d a w' => ∃ u, a = frP two ss a9 n9 c9 q g m cap n x l Pb Tb (.slice aS S.length cS) (.slice aP P.length cP)  v0 v1 v2 v3 v6 v7 v8 v10 v11 v12 v13 v14 v15 v17 v18 v19 v20 v22 v23 v28 v33 v34 v35 v36 v37 v38 v39 v40 v41 v42 v43 v44 v45 v46 v47 v48 v49 v50 v51 v52 v53 v54 v55 v56 v57 v58 v59 v60 v61 v62 v63 v64 v65 v66 v67 v68 v69 v70 v71 v72 v73 v74 v75 v76 v77 v78 v79 v80 v81 v82 v83 v84 v85 v86 v87 v88 v89 v90 v91 v92 v93 v94 v95 v96 v97 v98 v99 v100 v101 v102 v103 v104 v105 v106 v107 v108 v109 v110 v111 v112 v113 v114 v115 v116 v117 v118 v119 v120 v121 v122 v123 v138 v139 v140 v141 v142 v143 v144 v145 v146 v147 v148 v149 v150 v151 v152 v153 v154 v155 v156 v157 v158 v159 v160 v161 v162 v163 v164 v165 v166 v167 v168 v169 v170 v171 v172 v173 v174 v175 v176 v177 v178 v179 v180 v181 v182 v183 v184 v185 v186 v187 v188 v189 v190 v191 v192 v193 v194 v195 v196 v197 v198 v199 v200 v201 v202 v203 v204 v205 v206 v207 v208 v209 v210 v211 v212 v213 v214 v215 v216 v217 v218 v219 v220 v221 v222 v223 v224 v225 v226 v227 v228 v229 v230 v231 v232 v233 v234 v235 v236 v237 v238 v239 v240 v241 v242 v243 v244 v245 v246 v247 v248 v249 v250 v251 v252 v253 v254 v255 v256 v257 v258 v259 v260 v261 v262 v263 v264 v265 v266 v267 v268 v269 v270 v271 v272 v273 v274 v275 v276 v277 v278 v279 v280 v281 v282 v283 v284 v285 v286 v287 v288 v289 v290 v291 v292 v293 v294 v295 v296 v297 v298 v299 v300 v301 v302 v303 v304 v305 v306 v307 v308 v309 v310 v311 v312 v313 v314 v315 v316 v317 v318 v319 v320 v321 v322 v323 v324 v325 v326 v327 v328 v329 v330 v331 v332 v333 v334 v335 v336 u ∧ Gp w q g m cap pC pk ck pN pK d u w') ?_ ?_ ?_
  · exact ⟨fun s => if s = 32 then v32 else (#[v124, v125, v126, v127, v128, v129, v130, v131, v132, v133, v134, v135, v136, v137] : Array Value).getD (s - 124) undef, rfl, (Below.refl _ _).drew, fun _ => rfl, by simp, by simp, by simp, by simp⟩
  · intro d a wx i o hI ho hd hdep
    obtain ⟨u, rfl, hG⟩ := hI
    have m0 := (hG.bel.cell (p := ⟨q, 0, none⟩) lq).trans q0
    have m1 := (hG.bel.cell (p := ⟨q, 1, none⟩) lq).trans q1
    have m2 := (hG.bel.cell (p := ⟨q, 2, none⟩) lq).trans q2
    have mc := (hG.bel.cell (p := ⟨g, pk, none⟩) lg).trans pc
    clear HK q0 q1 q2 pc
    match i with
    | 0 =>
      have ho' := ho
      simp at ho; subst ho
      simp [Region.binds] at hdep
      refine wpOp_plain ho' rfl ?_
      clear ho'
      unfold Oper.wp
      simp only [execOp, frP]
      go_simp
      exact ⟨_, by simp [setU, exP], hG.put 0 (by omega) rfl⟩
    | 1 =>
      have ho' := ho
      simp at ho; subst ho
      simp [Region.binds] at hdep
      refine wpOp_plain ho' rfl ?_
      clear ho'
      have e0 : u 124 = .pointer (some ⟨q, 1, none⟩) := hG.val 0 (by omega) (by simp [hdep])
      unfold Oper.wp
      simp only [execOp, frP]
      go_simp
      exact ⟨_, by simp [setU, exP, e0], hG.put 1 (by omega) rfl⟩
    | 2 =>
      have ho' := ho
      simp at ho; subst ho
      simp [Region.binds] at hdep
      refine wpOp_plain ho' rfl ?_
      clear ho'
      unfold Oper.wp
      simp only [execOp, frP]
      go_simp
      exact ⟨_, by simp [setU, exP], hG.put 2 (by omega) rfl⟩
    | 3 =>
      have ho' := ho
      simp at ho; subst ho
      simp [Region.binds] at hdep
      refine wpOp_plain ho' rfl ?_
      clear ho'
      unfold Oper.wp
      simp only [execOp, frP]
      go_simp
      exact ⟨_, by simp [setU, exP], hG.put 3 (by omega) rfl⟩
    | 4 =>
      have ho' := ho
      simp at ho; subst ho
      simp [Region.binds] at hdep
      refine wpOp_plain ho' rfl ?_
      clear ho'
      have e3 : u 127 = .pointer (some ⟨q, 0, none⟩) := hG.val 3 (by omega) (by simp [hdep])
      unfold Oper.wp
      simp only [execOp, frP]
      go_simp
      exact ⟨_, by simp [setU, exP, e3], hG.put 4 (by omega) rfl⟩
    | 5 =>
      have ho' := ho
      simp at ho; subst ho
      simp [Region.binds] at hdep
      refine wpOp_plain ho' rfl ?_
      clear ho'
      have e4 : u 128 = .int .u8 (pC : Int) := hG.val 4 (by omega) (by simp [hdep])
      unfold Oper.wp
      simp only [execOp, frP]
      go_simp
      exact ⟨_, by simp [setU, exP, e4], hG.put 5 (by omega) rfl⟩
    | 6 =>
      have ho' := ho
      simp at ho; subst ho
      simp [Region.binds] at hdep
      refine wpOp_plain ho' rfl ?_
      clear ho'
      unfold Oper.wp
      simp only [execOp, frP]
      go_simp
      exact ⟨_, by simp [setU, exP], hG.put 6 (by omega) rfl⟩
    | 7 =>
      have ho' := ho
      simp at ho; subst ho
      simp [Region.binds] at hdep
      refine wpOp_plain ho' rfl ?_
      clear ho'
      have e6 : u 130 = .slice (some ⟨g, 0, none⟩) m cap := hG.val 6 (by omega) (by simp [hdep])
      unfold Oper.wp
      simp only [execOp, frP]
      go_simp
      exact ⟨_, by simp [setU, exP, e6], hG.put 7 (by omega) rfl⟩
    | 8 =>
      have ho' := ho
      simp at ho; subst ho
      simp [Region.binds] at hdep
      refine wpOp_plain ho' rfl ?_
      clear ho'
      have e5 : u 129 = .int .i64 (pC : Int) := hG.val 5 (by omega) (by simp [hdep])
      have e7 : u 131 = .int .i64 (m : Int) := hG.val 7 (by omega) (by simp [hdep])
      unfold Oper.wp
      simp only [execOp, frP]
      go_simp
      exact ⟨_, by simp [setU, exP, e5, e7], hG.put 8 (by omega) rfl⟩
    | 9 =>
      have ho' := ho
      simp at ho; subst ho
      simp [Region.binds] at hdep
      refine wpOp_plain ho' rfl ?_
      clear ho'
      have e2 : u 126 = .slice (some ⟨g, 0, none⟩) m cap := hG.val 2 (by omega) (by simp [hdep])
      have e8 : u 132 = .int .i64 (pk : Int) := hG.val 8 (by omega) (by simp [hdep])
      unfold Oper.wp
      simp only [execOp, frP]
      go_simp
      exact ⟨_, by simp [setU, exP, e2, e8], hG.put 9 (by omega) rfl⟩
    | 10 =>
      have ho' := ho
      simp at ho; subst ho
      simp [Region.binds] at hdep
      refine wpOp_plain ho' rfl ?_
      clear ho'
      have e9 : u 133 = .pointer (some ⟨g, pk, none⟩) := hG.val 9 (by omega) (by simp [hdep])
      unfold Oper.wp
      simp only [execOp, frP]
      go_simp
      exact ⟨_, by simp [setU, exP, e9], hG.put 10 (by omega) rfl⟩
    | 11 =>
      have ho' := ho
      simp at ho; subst ho
      simp [Region.binds] at hdep
      refine wpOp_plain ho' rfl ?_
      clear ho'
      unfold Oper.wp
      simp only [execOp, frP]
      go_simp
      exact ⟨_, by simp [setU, exP], hG.put 11 (by omega) rfl⟩
    | 12 =>
      have ho' := ho
      simp at ho; subst ho
      simp [Region.binds] at hdep
      refine wpOp_plain ho' rfl ?_
      clear ho'
      have e11 : u 135 = .pointer (some ⟨q, 2, none⟩) := hG.val 11 (by omega) (by simp [hdep])
      unfold Oper.wp
      simp only [execOp, frP]
      go_simp
      exact ⟨_, by simp [setU, exP, e11], hG.put 12 (by omega) rfl⟩
    | 13 =>
      have ho' := ho
      simp at ho; subst ho
      simp [Region.binds] at hdep
      refine wpOp_plain ho' rfl ?_
      clear ho'
      have e1 : u 125 = .int .i64 pN := hG.val 1 (by omega) (by simp [hdep])
      have e10 : u 134 = .pointer (some ⟨ck, 0, none⟩) := hG.val 10 (by omega) (by simp [hdep])
      have e12 : u 136 = .int .i64 pK := hG.val 12 (by omega) (by simp [hdep])
      unfold Oper.wp
      simp only [execOp, frP]
      go_simp
      exact ⟨_, by simp [setU, exP, e1, e10, e12], hG.put 13 (by omega) rfl⟩
    | 14 =>
      have ho' := ho
      simp at ho; subst ho
      simp [Region.binds] at hdep
      refine wpOp_plain ho' rfl ?_
      clear ho'
      have hsz := hG.sz0 hd
      unfold Oper.wp
      simp only [execOp, frP]
      go_simp
      exact ⟨setU u 32 (.pointer (some ⟨w.heap.size, 0, none⟩)), by simp [setU], hG.put14 hd (#[.int .i64 0, .pointer none, .int .i64 0]) rfl⟩
    | 15 =>
      have ho' := ho
      simp at ho; subst ho
      simp [Region.binds] at hdep
      refine wpOp_plain ho' rfl ?_
      clear ho'
      have e13 : u 137 = .agg #[.int .i64 pN, .pointer (some ⟨ck, 0, none⟩), .int .i64 pK] := hG.val 13 (by omega) (by simp [hdep])
      obtain ⟨e14, hsz, r, hr⟩ := hG.a14 (by simp [hdep])
      have k0 := hr.cell (i := 0) (by omega)
      have k1 := hr.cell (i := 1) (by omega)
      have k2 := hr.cell (i := 2) (by omega)
      have hf0 := hr.frozen 0
      have hf1 := hr.frozen 1
      have hf2 := hr.frozen 2
      unfold Oper.wp
      simp only [execOp, frP]
      go_simp
      exact ⟨u, by simp [e13, e14], hG.put15 (by simp [hdep]) rfl⟩
    | i + 16 => simp at ho
  · intro d a w1 hI hall
    obtain ⟨u, rfl, hG⟩ := hI
    refine HK.out _ _ ?_
    clear HK K
    simp only [frP]
    obtain ⟨e32, hsz, _⟩ := hG.a14 (hall 14 (by decide))
    obtain ⟨b0, b1, b2⟩ := hG.a15 (hall 15 (by decide))
    have hb1 := hG.bel
    rw [e32]
    clear hall hG e32 q0 q1 q2 pc
    have hrow1 := HR.out.row.of_block (hb1.block _ HR.out.row.lt)
    have lT : Tb < w.heap.size := HR.out.row.lt
    have HRow1 : Hid (w1.rowIs Tb 67 (n * 12) (fun i => z12[i % z12.size]!)) := hrow1
    have HB1 : Hid (Below w.heap.size w w1) := hb1
    have y0 := hrow1.cell (i := x * 12) (by omega)
    have g0 := hrow1.frozen (x * 12)
    have y1 := hrow1.cell (i := x * 12 + 1) (by omega)
    have g1 := hrow1.frozen (x * 12 + 1)
    have y2 := hrow1.cell (i := x * 12 + 2) (by omega)
    have g2 := hrow1.frozen (x * 12 + 2)
    have y3 := hrow1.cell (i := x * 12 + 3) (by omega)
    have g3 := hrow1.frozen (x * 12 + 3)
    have y4 := hrow1.cell (i := x * 12 + 4) (by omega)
    have g4 := hrow1.frozen (x * 12 + 4)
    have y5 := hrow1.cell (i := x * 12 + 5) (by omega)
    have g5 := hrow1.frozen (x * 12 + 5)
    have y6 := hrow1.cell (i := x * 12 + 6) (by omega)
    have g6 := hrow1.frozen (x * 12 + 6)
    have y7 := hrow1.cell (i := x * 12 + 7) (by omega)
    have g7 := hrow1.frozen (x * 12 + 7)
    have y8 := hrow1.cell (i := x * 12 + 8) (by omega)
    have g8 := hrow1.frozen (x * 12 + 8)
    have y9 := hrow1.cell (i := x * 12 + 9) (by omega)
    have g9 := hrow1.frozen (x * 12 + 9)
    have y10 := hrow1.cell (i := x * 12 + 10) (by omega)
    have g10 := hrow1.frozen (x * 12 + 10)
    have y11 := hrow1.cell (i := x * 12 + 11) (by omega)
    have g11 := hrow1.frozen (x * 12 + 11)
    have zT : ¬ Tb = w.heap.size := by omega
    have zT' : ¬ w.heap.size = Tb := by omega
    clear hrow1 hb1
    refine wp_seq_k ?_
    intro K hK
    have HK := show Hid _ from hK
    clear hK
    go_wp2_with fail
    refine HK.out _ _ ?_
    clear HK K
    generalize hw2 : World.setCell _ _ _ = w2
    have hfT : ∃ fT, w2.rowIs Tb 67 (n * 12) fT ∧ TabF fT x ⟨pN, ck, pK⟩ (.slice aS S.length cS) (.slice aP P.length cP) ss ∧ Ext fT x ∧ Oth fT n x := by
      have hrow1 := HRow1.out
      subst hw2
      refine ⟨_, ((((((((((((hrow1.set _ _).set _ _).set _ _).set _ _).set _ _).set _ _).set _ _).set _ _).set _ _).set _ _).set _ _).set _ _), ?_, ?_, ?_⟩
      · constructor
        · rw [if_neg (by omega), if_neg (by omega), if_neg (by omega), if_neg (by omega), if_neg (by omega), if_neg (by omega), if_neg (by omega), if_neg (by omega), if_neg (by omega), if_neg (by omega), if_neg (by omega), if_pos rfl]
        · rw [if_neg (by omega), if_neg (by omega), if_neg (by omega), if_neg (by omega), if_neg (by omega), if_neg (by omega), if_neg (by omega), if_neg (by omega), if_neg (by omega), if_neg (by omega), if_pos rfl]
        · rw [if_neg (by omega), if_neg (by omega), if_neg (by omega), if_neg (by omega), if_neg (by omega), if_neg (by omega), if_neg (by omega), if_neg (by omega), if_neg (by omega), if_pos rfl]
        · rw [if_neg (by omega), if_neg (by omega), if_neg (by omega), if_neg (by omega), if_neg (by omega), if_neg (by omega), if_neg (by omega), if_neg (by omega), if_pos rfl]
        · rw [if_neg (by omega), if_neg (by omega), if_neg (by omega), if_neg (by omega), if_neg (by omega), if_neg (by omega), if_neg (by omega), if_pos rfl]
        · rw [if_neg (by omega), if_neg (by omega), if_neg (by omega), if_neg (by omega), if_neg (by omega), if_neg (by omega), if_pos rfl]
        · rw [if_neg (by omega), if_neg (by omega), if_neg (by omega), if_pos rfl]
      · constructor
        · rw [if_neg (by omega), if_neg (by omega), if_neg (by omega), if_neg (by omega), if_neg (by omega), if_pos rfl]
        · rw [if_neg (by omega), if_neg (by omega), if_neg (by omega), if_neg (by omega), if_pos rfl]
        · rw [if_neg (by omega), if_neg (by omega), if_pos rfl]
        · rw [if_neg (by omega), if_pos rfl]
        · rw [if_pos rfl]
      · intro i hi hne
        refine ⟨?_, ?_, ?_, ?_⟩ <;> dsimp only
        · rw [if_neg (by omega), if_neg (by omega), if_neg (by omega), if_neg (by omega), if_neg (by omega), if_neg (by omega), if_neg (by omega), if_neg (by omega), if_neg (by omega), if_neg (by omega), if_neg (by omega), if_neg (by omega), show (i * 12 + 1) % z12.size = 1 from by show (i * 12 + 1) % 12 = 1; omega]; rfl
        · rw [if_neg (by omega), if_neg (by omega), if_neg (by omega), if_neg (by omega), if_neg (by omega), if_neg (by omega), if_neg (by omega), if_neg (by omega), if_neg (by omega), if_neg (by omega), if_neg (by omega), if_neg (by omega), show (i * 12 + 3) % z12.size = 3 from by show (i * 12 + 3) % 12 = 3; omega]; rfl
        · rw [if_neg (by omega), if_neg (by omega), if_neg (by omega), if_neg (by omega), if_neg (by omega), if_neg (by omega), if_neg (by omega), if_neg (by omega), if_neg (by omega), if_neg (by omega), if_neg (by omega), if_neg (by omega), show (i * 12 + 4) % z12.size = 4 from by show (i * 12 + 4) % 12 = 4; omega]; rfl
        · rw [if_neg (by omega), if_neg (by omega), if_neg (by omega), if_neg (by omega), if_neg (by omega), if_neg (by omega), if_neg (by omega), if_neg (by omega), if_neg (by omega), if_neg (by omega), if_neg (by omega), if_neg (by omega), show (i * 12 + 8) % z12.size = 8 from by show (i * 12 + 8) % 12 = 8; omega]; rfl
    have hc2 : Chg [Tb] w1 w2 := by
      subst hw2
      exact (((((((((((((Chg.refl _ _).setCell (by simp) _).setCell (by simp) _).setCell (by simp) _).setCell (by simp) _).setCell (by simp) _).setCell (by simp) _).setCell (by simp) _).setCell (by simp) _).setCell (by simp) _).setCell (by simp) _).setCell (by simp) _).setCell (by simp) _)
    clear hw2 y0 g0 y1 g1 y2 g2 y3 g3 y4 g4 y5 g5 y6 g6 y7 g7 y8 g8 y9 g9 y10 g10 y11 g11
    have HFT := show Hid _ from hfT
    clear hfT
    have hmk := makeN n Yba.underlying69 info125 rfl hn8 (by decide)
    have HC2 : Hid (Chg [Tb] w1 w2) := hc2
    have d0 := (hc2.cell (p := ⟨w.heap.size, 0, none⟩) (by simp; omega) (by simp; omega)).trans b0
    have d1 := (hc2.cell (p := ⟨w.heap.size, 1, none⟩) (by simp; omega) (by simp; omega)).trans b1
    have d2 := (hc2.cell (p := ⟨w.heap.size, 2, none⟩) (by simp; omega) (by simp; omega)).trans b2
    clear hc2 b0 b1 b2
    refine wp_seq_k ?_
    intro K hK
    have HK := show Hid _ from hK
    clear hK
    go_wp2_with fail
    clear hmk
    generalize hw3 : World.alloc _ _ = w3
    have hb3 : Below w2.heap.size w2 w3 := by subst hw3; exact nb (nb (Below.refl _ _) (Nat.le_refl _) _) (Nat.le_refl _) _
    have sz3 : w3.heap.size = w2.heap.size + 2 := by subst hw3; simp
    have hst : ∃ f, w3.rowIs w2.heap.size 125 (n * 9) f := by
      subst hw3
      exact ⟨_, (rowIs_madeN w2 z9 (n * 9) 125).of_block (Deep.blk_alloc_lt _ _ _ (by simp))⟩
    have r0 : w3.cell? ⟨w2.heap.size + 1, 0, none⟩ = some (.int .i64 16) := by subst hw3; simp [go_sem]
    have r2 : w3.cell? ⟨w2.heap.size + 1, 2, none⟩ = some (.slice (some ⟨Pb, 0, none⟩) n n) := by subst hw3; simp [go_sem]
    have r8 : w3.cell? ⟨w2.heap.size + 1, 8, none⟩ = some (.slice (some ⟨w2.heap.size, 0, none⟩) n n) := by subst hw3; simp [go_sem]
    have r11 : w3.cell? ⟨w2.heap.size + 1, 11, none⟩ = some (.slice (some ⟨Tb, 0, none⟩) n n) := by subst hw3; simp [go_sem]
    have r12 : w3.cell? ⟨w2.heap.size + 1, 12, none⟩ = some (.bool false) := by subst hw3; simp [go_sem]
    have r13 : w3.cell? ⟨w2.heap.size + 1, 13, none⟩ = some (.bool two) := by subst hw3; simp [go_sem]
    have r14 : w3.cell? ⟨w2.heap.size + 1, 14, none⟩ = some (.int .i64 (l : Int)) := by subst hw3; simp [go_sem]
    clear hw3
    have hc3 : Chg [Tb] w w3 := ((Chg.of_below HB1.out).trans HC2.out).trans (Chg.of_below hb3)
    have lz2 := HC2.out.size
    obtain ⟨fT, hrT, htT, heT, hoT⟩ := HFT.out
    have hpre := HR.out
    have hty : ∀ b ∈ [Tb], ∃ t n f, w.rowIs b t n f ∧ t ≠ 64 := by
      intro b hb
      simp only [List.mem_singleton] at hb
      subst hb
      exact ⟨67, _, _, hpre.row, by decide⟩
    have hty59 : ∀ b ∈ [Tb], ∀ ca, w.heap[b]? ≠ some (.cells ca 59 (0, 0)) := by
      intro b hb ca he
      simp only [List.mem_singleton] at hb
      subst hb
      obtain ⟨c, e, _⟩ := hpre.row
      rw [e] at he
      injection he with he
      injection he with _ he
      cases he
    have lP := World.block_lt_of_cell? w _ hpre.p0
    simp only at lP
    have nP : Pb ∉ [Tb] := by have := hpre.nT; simp; omega
    have nG : g ∉ [Tb] := by have := hpre.nG; simp; omega
    have hbel : Below w0.heap.size w0 w3 := hpre.bel.trans (hc3.below hpre.bel.size (fun b hb => by
      simp only [List.mem_singleton] at hb
      subst hb
      exact hpre.gT))
    have hkn3 : ∀ c, Known w ID c → Known w3 ID c := fun c hc => by
      obtain ⟨ca, he, h0⟩ := hc
      exact Known.of_block ⟨ca, he, h0⟩ (hc3.block _ (Known.lt ⟨ca, he, h0⟩) (fun hm => hty59 _ hm ca he))
    have hRg : Rg w0 w3 ID (w2.heap.size + 1) Pb Tb w2.heap.size w.heap.size n x X l cp two ss ⟨pN, ck, pK⟩ (.slice aS S.length cS) (.slice aP P.length cP) S P fT :=
      { bel := hbel
        lt := hx
        n8 := hn8
        r11 := r11
        r12 := r12
        r14 := r14
        rst := ⟨r0, r2, r8, r13, (hc3.cell (by exact lP) (by exact nP)).trans hpre.p0, (hc3.cell (by exact lP) (by exact nP)).trans hpre.p1, hst⟩
        row := hrT.of_block (hb3.block _ hrT.lt)
        tab := htT
        ext := heT
        oth := hoT
        hS := hpre.hS.chgX hty hc3
        hP := hpre.hP.chgX hty hc3
        lS := hpre.lS
        lP := hpre.lP
        b0 := (hb3.cell (by simp; omega)).trans d0
        b1 := (hb3.cell (by simp; omega)).trans d1
        b2 := (hb3.cell (by simp; omega)).trans d2
        ids := fun y hy => by
          rcases List.mem_cons.1 hy with rfl | hy
          · exact hkn3 _ HKn.out
          · exact hkn3 _ (hpre.ids y hy)
        gT := hpre.gT
        gS := by have := hpre.bel.size; omega
        n1 := by omega
        n2 := by omega
        n3 := by omega
        n4 := by omega
        n5 := hpre.nT
        m1 := by omega
        m2 := by omega }
    have hPool3 : Pool w3 g m cs ID := ⟨hm0, fun j hj => (hc3.cell (by exact lg) (by exact nG)).trans (hpre.pool.cell j hj), fun j hj => hkn3 _ (hpre.pool.known j hj)⟩
    refine HK.out _ _ ?_
    exact t17 w0 w3 ID (w2.heap.size + 1) Pb Tb w2.heap.size w.heap.size n x X l cp two ss ⟨pN, ck, pK⟩ _ _ S P fT hRg g m cap cs hPool3 hm a9 n9 c9 b9 o9 C9 N9 K9 (H9.out.later hbel) hn9 _ rfl
end Go.Proofs.Ybulkdkrk.lawS5587CWhole
