import Derived.Test.YbulkdkqwQSettle
namespace Go.Proofs.Ybulkdkqw.lawS5586AWhole
open Go.ChangeShapes Go.WideShapes Go.ChangeAt Go.RowKit

/-- The region of this number. -/
def findR (id : Nat) : Code → Option Code
  | .region i ops d => if i = id then some (.region i ops d) else none
  | .seq a b => match findR id a with | some c => some c | none => findR id b
  | .cond _ a b => match findR id a with | some c => some c | none => findR id b
  | .block _ b => findR id b
  | .loop b => findR id b
  | _ => none

/-- What the operations of the keeping region hand on. -/
def ex7 (Rb kb eb mb n mcap iz : Nat) (name seq sf : Int) (mo : Option Addr) (ml mc : Nat) (cv : Value) : Nat → Value
  | 0 => .pointer (some ⟨Rb, 0, none⟩)
  | 1 => .pointer (some ⟨Rb, 0, none⟩)
  | 2 => .pointer (some ⟨Rb, 5, none⟩)
  | 3 => .pointer (some ⟨Rb, 13, none⟩)
  | 4 => .map (some kb)
  | 5 => .int .u64 name
  | 6 => .pointer (some ⟨Rb, 0, none⟩)
  | 7 => .pointer (some ⟨Rb, 0, none⟩)
  | 8 => .pointer (some ⟨Rb, 5, none⟩)
  | 9 => .pointer (some ⟨Rb, 13, none⟩)
  | 10 => .map (some kb)
  | 11 => .int .u64 name
  | 12 => cv
  | 13 => .pointer (some ⟨eb, 2, none⟩)
  | 14 => .int .u64 seq
  | 15 => .slice (some ⟨mb, 0, none⟩) n mcap
  | 16 => .int .i64 (iz : Int)
  | 17 => .pointer (some ⟨mb, iz, none⟩)
  | 18 => .slice mo ml mc
  | 19 => .pointer (some ⟨Rb, 0, none⟩)
  | 20 => .pointer (some ⟨Rb, 0, none⟩)
  | 21 => .pointer (some ⟨Rb, 3, none⟩)
  | 22 => .int .u64 sf
  | 23 => .agg #[.int .u64 seq, .slice mo ml mc, .int .u64 sf]
  | _ => undef

set_option maxRecDepth 100000 in
def fr7 (Rb eb mb n mcap iz : Nat) (name : Int) (v1 v2 v4 v5 v6 v7 v8 v9 v13 v14 v15 v16 v17 v18 v19 v20 v21 v22 v23 v24 v25 v26 v27 v28 v29 v30 v31 v32 v33 v34 v35 v36 v37 v38 v39 v65 v66 v67 v68 v69 v70 v71 v72 v73 v74 v75 v76 v77 v78 v79 v80 v81 v82 v83 v84 v85 v86 v87 v88 v89 v90 v91 v92 v93 v94 v95 v96 v97 v98 v99 v100 v101 v102 v103 v104 v105 v106 v107 v108 v109 v110 : Value) (u : Nat → Value) : Act := ⟨#[.pointer (some ⟨Rb, 0, none⟩), v1, v2, .slice (some ⟨mb, 0, none⟩) n mcap, v4, v5, v6, v7, v8, v9, .int .i64 (iz : Int), .pointer (some ⟨eb, 0, none⟩), .int .u64 name, v13, v14, v15, v16, v17, v18, v19, v20, v21, v22, v23, v24, v25, v26, v27, v28, v29, v30, v31, v32, v33, v34, v35, v36, v37, v38, v39, u 40, u 41, u 42, u 43, u 44, u 45, u 46, u 47, u 48, u 49, u 50, u 51, u 52, u 53, u 54, u 55, u 56, u 57, u 58, u 59, u 60, u 61, u 62, u 63, u 64, v65, v66, v67, v68, v69, v70, v71, v72, v73, v74, v75, v76, v77, v78, v79, v80, v81, v82, v83, v84, v85, v86, v87, v88, v89, v90, v91, v92, v93, v94, v95, v96, v97, v98, v99, v100, v101, v102, v103, v104, v105, v106, v107, v108, v109, v110], []⟩

/-- What holds at every moment of the keeping region (it began in w). -/
structure G7 (w : World) (B no : Nat) (KB : Nat → Nat) (FF : Nat → Int → Value) (SS : Nat → Int → List KM) (m o : Nat) (Rb kb eb mb n mcap iz : Nat) (name seq sf : Int) (mo : Option Addr) (ml mc : Nat) (cv : Value) (d : Nat → Bool) (u : Nat → Value) (w' : World) : Prop where
  ko : KOnly no KB w w'
  val : ∀ i, i < 24 → d i = true → u (40 + i) = ex7 Rb kb eb mb n mcap iz name seq sf mo ml mc cv i
  pre : d 24 = false → Below w.heap.size w w' ∧ d 25 = false
  mid : d 24 = true → d 25 = false → ∃ wx v', Below w.heap.size w wx ∧ u 64 = v' ∧ Sl EK 63 w' B v' (ins (SS o name) ⟨seq, mo, ml, mc, sf⟩) ∧ wx.grownBy w' (curV FF SS o name).ownBlock ∧ Loc wx (curV FF SS o name) v'
  fin : d 25 = true → ∃ FF' NN', KeptAll w' B no KB FF' (set2 SS o name (ins (SS o name) ⟨seq, mo, ml, mc, sf⟩)) NN' (m + 1)
  o16 : d 24 = true → d 12 = true
section
variable {w w' w2 : World} {B no : Nat} {KB : Nat → Nat} {FF : Nat → Int → Value} {SS : Nat → Int → List KM} {m o : Nat} {Rb kb eb mb n mcap iz : Nat} {name seq sf : Int} {mo : Option Addr} {ml mc : Nat} {cv : Value} {d : Nat → Bool} {u : Nat → Value}
theorem G7.put (h : G7 w B no KB FF SS m o Rb kb eb mb n mcap iz name seq sf mo ml mc cv d u w') (i : Nat) (hi : i < 24) {v : Value} (hv : v = ex7 Rb kb eb mb n mcap iz name seq sf mo ml mc cv i) : G7 w B no KB FF SS m o Rb kb eb mb n mcap iz name seq sf mo ml mc cv (fun j => decide (j = i) || d j) (setU u (40 + i) v) w' where
  ko := h.ko
  val := fun j hj hd => by
    unfold setU
    by_cases e : j = i
    · subst e; rw [if_pos rfl]; exact hv
    · rw [if_neg (by omega)]
      exact h.val j hj (by simpa [e] using hd)
  pre := fun hd => by
    have h1 : ¬ 24 = i := by omega
    have h2 : ¬ 25 = i := by omega
    have := h.pre (by simpa [h1] using hd)
    exact ⟨this.1, by simpa [h2] using this.2⟩
  mid := fun hd hd2 => by
    have h1 : ¬ 24 = i := by omega
    have h2 : ¬ 25 = i := by omega
    obtain ⟨wx, v', a, b, c⟩ := h.mid (by simpa [h1] using hd) (by simpa [h2] using hd2)
    exact ⟨wx, v', a, by unfold setU; rw [if_neg (by omega)]; exact b, c⟩
  fin := fun hd => by
    have h2 : ¬ 25 = i := by omega
    exact h.fin (by simpa [h2] using hd)
  o16 := fun hd => by
    have h1 : ¬ 24 = i := by omega
    have := h.o16 (by simpa [h1] using hd)
    simp [this]
theorem G7.put16 (h : G7 w B no KB FF SS m o Rb kb eb mb n mcap iz name seq sf mo ml mc cv d u w') (hd : d 24 = false) (h10 : d 12 = true) {v' : Value} {NN : Nat → Nat} (hka : KeptAll w B no KB FF SS NN m) (ho : o < no) (hs : Sl EK 63 w2 B v' (ins (SS o name) ⟨seq, mo, ml, mc, sf⟩)) (hg : w'.grownBy w2 (curV FF SS o name).ownBlock) (hl : Loc w' (curV FF SS o name) v') : G7 w B no KB FF SS m o Rb kb eb mb n mcap iz name seq sf mo ml mc cv (fun j => decide (j = 24) || d j) (setU u 64 v') w2 where
  ko := h.ko.trans (KOnly.of_row hg (fun g e => ((hka.cur ho name).later (h.pre hd).1).typed e) (fun g e => hka.curHi ho name e))
  val := fun j hj hd => by
    unfold setU
    rw [if_neg (by omega)]
    exact h.val j hj (by have : ¬ j = 24 := by omega
                         simpa [this] using hd)
  pre := fun hd => by simp at hd
  mid := fun _ _ => ⟨w', v', (h.pre hd).1, by simp [setU], hs, hg, hl⟩
  fin := fun h1 => by
    have := (h.pre hd).2
    simp [this] at h1
  o16 := fun _ => by simp [h10]
theorem G7.put17 (h : G7 w B no KB FF SS m o Rb kb eb mb n mcap iz name seq sf mo ml mc cv d u w') (h16 : d 24 = true) {FF' : Nat → Int → Value} {NN' : Nat → Nat} (hk : KeptAll w2 B no KB FF' (set2 SS o name (ins (SS o name) ⟨seq, mo, ml, mc, sf⟩)) NN' (m + 1)) (hko : KOnly no KB w' w2) : G7 w B no KB FF SS m o Rb kb eb mb n mcap iz name seq sf mo ml mc cv (fun j => decide (j = 25) || d j) u w2 where
  ko := h.ko.trans hko
  val := fun j hj hd => h.val j hj (by have : ¬ j = 25 := by omega
                                       simpa [this] using hd)
  pre := fun hd => by simp [h16] at hd
  mid := fun _ hd => by simp at hd
  fin := fun _ => ⟨FF', NN', hk⟩
  o16 := fun _ => by have := h.o16 h16; simp [this]
/-- The store. -/
theorem G7.upd (h : G7 w B no KB FF SS m o Rb kb eb mb n mcap iz name seq sf mo ml mc cv d u w') (h17 : d 25 = false) (h16 : d 24 = true) {NN : Nat → Nat} (hka : KeptAll w B no KB FF SS NN m) (ho : o < no) (hn : U name) (hm : m < 1000000) :
    ∃ v' w3 FF' NN', u 64 = v' ∧ (Instr.mapUpdate 34 (.map (some (KB o))) (.int .u64 name) v').run Yba.prog w' = .ok () w3 ∧ KeptAll w3 B no KB FF' (set2 SS o name (ins (SS o name) ⟨seq, mo, ml, mc, sf⟩)) NN' (m + 1) ∧ KOnly no KB w' w3 := by
  obtain ⟨wx, v', hb, e, hs, hg, hl⟩ := h.mid h16 h17
  obtain ⟨w3, hrun, hk, hg2⟩ := (hka.later hb).step ho hn hm hs hg hl
  exact ⟨v', w3, _, _, e, hrun, hk, KOnly.of_map ho (hka.base o ho) hg2⟩
end


set_option linter.unusedVariables false in
set_option maxRecDepth 1000000 in
set_option maxHeartbeats 4000000 in
/-- The keeping region of keepCarried. -/
theorem car7 {v1 v2 v4 v5 v6 v7 v8 v9 v13 v14 v15 v16 v17 v18 v19 v20 v21 v22 v23 v24 v25 v26 v27 v28 v29 v30 v31 v32 v33 v34 v35 v36 v37 v38 v39 v40 v41 v42 v43 v44 v45 v46 v47 v48 v49 v50 v51 v52 v53 v54 v55 v56 v57 v58 v59 v60 v61 v62 v63 v64 v65 v66 v67 v68 v69 v70 v71 v72 v73 v74 v75 v76 v77 v78 v79 v80 v81 v82 v83 v84 v85 v86 v87 v88 v89 v90 v91 v92 v93 v94 v95 v96 v97 v98 v99 v100 v101 v102 v103 v104 v105 v106 v107 v108 v109 v110 : Value} (w : World) (B Rb : Nat) (sf : Int) (vids : Value) (ids : List Int) (pm um nm mk : Nat) (ps : List Peer) (unm : List Int) (ucnt : Nat) (no : Nat) (KB : Nat → Nat) (FF : Nat → Int → Value) (SS : Nat → Int → List KM) (NN : Nat → Nat) (m o eb mb n mcap iz : Nat) (ec mcur : Array Value) (name seq : Int) (mo : Option Addr) (ml mc : Nat)
    (hRt : Rt w B Rb sf vids ids pm um nm mk ps unm ucnt) (hSep : Sep w Rb pm um nm ps no KB) (hKa : KeptAll w B no KB FF SS NN m) (hB : B ≤ w.heap.size) (hm : m < 90000) (ho0 : o < no) (hkb : KB o = mk) (hn : U name)
    (heb : w.heap[eb]? = some (.cells ec 56 (0, 0))) (hes : w.cell? ⟨eb, 2, none⟩ = some (.int .u64 seq)) (hmb : w.heap[mb]? = some (.cells mcur 54 (0, 0))) (hms : w.cell? ⟨mb, iz, none⟩ = some (.slice mo ml mc)) (hin : (iz : Int) < (n : Int)) (K : Act → World → Prop) (Q : Exit → Act → World → Prop)
    (hK : ∀ u w' FF' NN', KeptAll w' B no KB FF' (set2 SS o name (ins (SS o name) ⟨seq, mo, ml, mc, sf⟩)) NN' (m + 1) → KOnly no KB w w' → K (fr7 Rb eb mb n mcap iz name v1 v2 v4 v5 v6 v7 v8 v9 v13 v14 v15 v16 v17 v18 v19 v20 v21 v22 v23 v24 v25 v26 v27 v28 v29 v30 v31 v32 v33 v34 v35 v36 v37 v38 v39 v65 v66 v67 v68 v69 v70 v71 v72 v73 v74 v75 v76 v77 v78 v79 v80 v81 v82 v83 v84 v85 v86 v87 v88 v89 v90 v91 v92 v93 v94 v95 v96 v97 v98 v99 v100 v101 v102 v103 v104 v105 v106 v107 v108 v109 v110 u) w')
    (code : Code) (hc : Yba.f7.body.bind (findR 7) = some code) :
    Code.wp Yba.prog code (Exit.then K Q) ⟨#[.pointer (some ⟨Rb, 0, none⟩), v1, v2, .slice (some ⟨mb, 0, none⟩) n mcap, v4, v5, v6, v7, v8, v9, .int .i64 (iz : Int), .pointer (some ⟨eb, 0, none⟩), .int .u64 name, v13, v14, v15, v16, v17, v18, v19, v20, v21, v22, v23, v24, v25, v26, v27, v28, v29, v30, v31, v32, v33, v34, v35, v36, v37, v38, v39, v40, v41, v42, v43, v44, v45, v46, v47, v48, v49, v50, v51, v52, v53, v54, v55, v56, v57, v58, v59, v60, v61, v62, v63, v64, v65, v66, v67, v68, v69, v70, v71, v72, v73, v74, v75, v76, v77, v78, v79, v80, v81, v82, v83, v84, v85, v86, v87, v88, v89, v90, v91, v92, v93, v94, v95, v96, v97, v98, v99, v100, v101, v102, v103, v104, v105, v106, v107, v108, v109, v110], []⟩ w := by
  cases hc
  conv => arg 2; whnf
  have HKa : Hid (KeptAll w B no KB FF SS NN m) := hKa
  have HRt : Hid (Rt w B Rb sf vids ids pm um nm mk ps unm ucnt) := hRt
  have HSep : Hid (Sep w Rb pm um nm ps no KB) := hSep
  have HK : Hid (∀ u w' FF' NN', KeptAll w' B no KB FF' (set2 SS o name (ins (SS o name) ⟨seq, mo, ml, mc, sf⟩)) NN' (m + 1) → KOnly no KB w w' → K (fr7 Rb eb mb n mcap iz name v1 v2 v4 v5 v6 v7 v8 v9 v13 v14 v15 v16 v17 v18 v19 v20 v21 v22 v23 v24 v25 v26 v27 v28 v29 v30 v31 v32 v33 v34 v35 v36 v37 v38 v39 v65 v66 v67 v68 v69 v70 v71 v72 v73 v74 v75 v76 v77 v78 v79 v80 v81 v82 v83 v84 v85 v86 v87 v88 v89 v90 v91 v92 v93 v94 v95 v96 v97 v98 v99 v100 v101 v102 v103 v104 v105 v106 v107 v108 v109 v110 u) w') := hK
  have leb : eb < w.heap.size := World.block_lt_of_cell? w _ hes
  have lmb : mb < w.heap.size := World.block_lt_of_cell? w _ hms
  have HKb : Hid (KB o = mk) := hkb
  clear hKa hRt hSep hK hkb
  refine wp_region_inv cmixed (back_of (by kernel_rfl)) (fun d a w' => ∃ u, a = fr7 Rb eb mb n mcap iz name v1 v2 v4 v5 v6 v7 v8 v9 v13 v14 v15 v16 v17 v18 v19 v20 v21 v22 v23 v24 v25 v26 v27 v28 v29 v30 v31 v32 v33 v34 v35 v36 v37 v38 v39 v65 v66 v67 v68 v69 v70 v71 v72 v73 v74 v75 v76 v77 v78 v79 v80 v81 v82 v83 v84 v85 v86 v87 v88 v89 v90 v91 v92 v93 v94 v95 v96 v97 v98 v99 v100 v101 v102 v103 v104 v105 v106 v107 v108 v109 v110 u ∧ G7 w B no KB FF SS m o Rb (KB o) eb mb n mcap iz name seq sf mo ml mc (curV FF SS o name) d u w') ?_ ?_ ?_
  · exact ⟨fun s => (#[v40, v41, v42, v43, v44, v45, v46, v47, v48, v49, v50, v51, v52, v53, v54, v55, v56, v57, v58, v59, v60, v61, v62, v63, v64] : Array Value).getD (s - 40) undef, rfl, KOnly.of_below ((Below.refl _ _).drew), by simp, fun _ => ⟨(Below.refl _ _).drew, rfl⟩, by simp, by simp, by simp⟩
  · intro d a wx i o' hI ho hd hdep
    obtain ⟨u, rfl, hG⟩ := hI
    have hR := HRt.out.konly HSep.out hG.ko
    have r3 := hR.c3
    have r13 := hR.c13
    rw [← HKb.out] at r13
    have me := (hG.ko.cell (p := ⟨eb, 2, none⟩) leb (cells_ne heb (by decide)) (HSep.out.ne heb)).trans hes
    have mm := (hG.ko.cell (p := ⟨mb, iz, none⟩) lmb (cells_ne hmb (by decide)) (HSep.out.ne hmb)).trans hms
    have hlk : d 24 = false → (Instr.lookup 34 (.map (some (KB o))) (.int .u64 name) false).run Yba.prog wx = .ok (curV FF SS o name) wx := fun h16 => ((HKa.out.later (hG.pre h16).1).map o ho0).look Yba.underlying34 (zero68 wx) hn
    clear hR
    match i with
    | 0 =>
      have ho' := ho
      simp at ho; subst ho
      simp [Region.binds] at hdep
      refine wpOp_plain ho' rfl ?_
      clear ho'
      unfold Oper.wp
      simp only [execOp, fr7]
      go_simp
      exact ⟨_, by simp [setU, ex7], hG.put 0 (by omega) rfl⟩
    | 1 =>
      have ho' := ho
      simp at ho; subst ho
      simp [Region.binds] at hdep
      refine wpOp_plain ho' rfl ?_
      clear ho'
      have e0 : u 40 = .pointer (some ⟨Rb, 0, none⟩) := hG.val 0 (by omega) (by simp [hdep])
      unfold Oper.wp
      simp only [execOp, fr7]
      go_simp
      exact ⟨_, by simp [setU, ex7, e0], hG.put 1 (by omega) rfl⟩
    | 2 =>
      have ho' := ho
      simp at ho; subst ho
      simp [Region.binds] at hdep
      refine wpOp_plain ho' rfl ?_
      clear ho'
      have e1 : u 41 = .pointer (some ⟨Rb, 0, none⟩) := hG.val 1 (by omega) (by simp [hdep])
      unfold Oper.wp
      simp only [execOp, fr7]
      go_simp
      exact ⟨_, by simp [setU, ex7, e1], hG.put 2 (by omega) rfl⟩
    | 3 =>
      have ho' := ho
      simp at ho; subst ho
      simp [Region.binds] at hdep
      refine wpOp_plain ho' rfl ?_
      clear ho'
      have e2 : u 42 = .pointer (some ⟨Rb, 5, none⟩) := hG.val 2 (by omega) (by simp [hdep])
      unfold Oper.wp
      simp only [execOp, fr7]
      go_simp
      exact ⟨_, by simp [setU, ex7, e2], hG.put 3 (by omega) rfl⟩
    | 4 =>
      have ho' := ho
      simp at ho; subst ho
      simp [Region.binds] at hdep
      refine wpOp_plain ho' rfl ?_
      clear ho'
      have e3 : u 43 = .pointer (some ⟨Rb, 13, none⟩) := hG.val 3 (by omega) (by simp [hdep])
      unfold Oper.wp
      simp only [execOp, fr7]
      go_simp
      exact ⟨_, by simp [setU, ex7, e3], hG.put 4 (by omega) rfl⟩
    | 5 =>
      have ho' := ho
      simp at ho; subst ho
      simp [Region.binds] at hdep
      refine wpOp_plain ho' rfl ?_
      clear ho'
      unfold Oper.wp
      simp only [execOp, fr7]
      go_simp
      exact ⟨_, by simp [setU, ex7], hG.put 5 (by omega) rfl⟩
    | 6 =>
      have ho' := ho
      simp at ho; subst ho
      simp [Region.binds] at hdep
      refine wpOp_plain ho' rfl ?_
      clear ho'
      unfold Oper.wp
      simp only [execOp, fr7]
      go_simp
      exact ⟨_, by simp [setU, ex7], hG.put 6 (by omega) rfl⟩
    | 7 =>
      have ho' := ho
      simp at ho; subst ho
      simp [Region.binds] at hdep
      refine wpOp_plain ho' rfl ?_
      clear ho'
      have e6 : u 46 = .pointer (some ⟨Rb, 0, none⟩) := hG.val 6 (by omega) (by simp [hdep])
      unfold Oper.wp
      simp only [execOp, fr7]
      go_simp
      exact ⟨_, by simp [setU, ex7, e6], hG.put 7 (by omega) rfl⟩
    | 8 =>
      have ho' := ho
      simp at ho; subst ho
      simp [Region.binds] at hdep
      refine wpOp_plain ho' rfl ?_
      clear ho'
      have e7 : u 47 = .pointer (some ⟨Rb, 0, none⟩) := hG.val 7 (by omega) (by simp [hdep])
      unfold Oper.wp
      simp only [execOp, fr7]
      go_simp
      exact ⟨_, by simp [setU, ex7, e7], hG.put 8 (by omega) rfl⟩
    | 9 =>
      have ho' := ho
      simp at ho; subst ho
      simp [Region.binds] at hdep
      refine wpOp_plain ho' rfl ?_
      clear ho'
      have e8 : u 48 = .pointer (some ⟨Rb, 5, none⟩) := hG.val 8 (by omega) (by simp [hdep])
      unfold Oper.wp
      simp only [execOp, fr7]
      go_simp
      exact ⟨_, by simp [setU, ex7, e8], hG.put 9 (by omega) rfl⟩
    | 10 =>
      have ho' := ho
      simp at ho; subst ho
      simp [Region.binds] at hdep
      refine wpOp_plain ho' rfl ?_
      clear ho'
      have e9 : u 49 = .pointer (some ⟨Rb, 13, none⟩) := hG.val 9 (by omega) (by simp [hdep])
      unfold Oper.wp
      simp only [execOp, fr7]
      go_simp
      exact ⟨_, by simp [setU, ex7, e9], hG.put 10 (by omega) rfl⟩
    | 11 =>
      have ho' := ho
      simp at ho; subst ho
      simp [Region.binds] at hdep
      refine wpOp_plain ho' rfl ?_
      clear ho'
      unfold Oper.wp
      simp only [execOp, fr7]
      go_simp
      exact ⟨_, by simp [setU, ex7], hG.put 11 (by omega) rfl⟩
    | 12 =>
      have ho' := ho
      simp at ho; subst ho
      simp [Region.binds] at hdep
      refine wpOp_plain ho' rfl ?_
      clear ho'
      have e10 : u 50 = .map (some (KB o)) := hG.val 10 (by omega) (by simp [hdep])
      have e11 : u 51 = .int .u64 name := hG.val 11 (by omega) (by simp [hdep])
      have h16 : d 24 = false := by
        cases h : d 24 with
        | false => rfl
        | true => have := hG.o16 h; rw [hd] at this; cases this
      have hl10 := hlk h16
      unfold Oper.wp
      simp only [execOp, fr7]
      go_simp
      exact ⟨_, by simp [setU, ex7, e10, e11], hG.put 12 (by omega) rfl⟩
    | 13 =>
      have ho' := ho
      simp at ho; subst ho
      simp [Region.binds] at hdep
      refine wpOp_plain ho' rfl ?_
      clear ho'
      unfold Oper.wp
      simp only [execOp, fr7]
      go_simp
      exact ⟨_, by simp [setU, ex7], hG.put 13 (by omega) rfl⟩
    | 14 =>
      have ho' := ho
      simp at ho; subst ho
      simp [Region.binds] at hdep
      refine wpOp_plain ho' rfl ?_
      clear ho'
      have e13 : u 53 = .pointer (some ⟨eb, 2, none⟩) := hG.val 13 (by omega) (by simp [hdep])
      unfold Oper.wp
      simp only [execOp, fr7]
      go_simp
      exact ⟨_, by simp [setU, ex7, e13], hG.put 14 (by omega) rfl⟩
    | 15 =>
      have ho' := ho
      simp at ho; subst ho
      simp [Region.binds] at hdep
      refine wpOp_plain ho' rfl ?_
      clear ho'
      unfold Oper.wp
      simp only [execOp, fr7]
      go_simp
      exact ⟨_, by simp [setU, ex7], hG.put 15 (by omega) rfl⟩
    | 16 =>
      have ho' := ho
      simp at ho; subst ho
      simp [Region.binds] at hdep
      refine wpOp_plain ho' rfl ?_
      clear ho'
      unfold Oper.wp
      simp only [execOp, fr7]
      go_simp
      exact ⟨_, by simp [setU, ex7], hG.put 16 (by omega) rfl⟩
    | 17 =>
      have ho' := ho
      simp at ho; subst ho
      simp [Region.binds] at hdep
      refine wpOp_plain ho' rfl ?_
      clear ho'
      have e15 : u 55 = .slice (some ⟨mb, 0, none⟩) n mcap := hG.val 15 (by omega) (by simp [hdep])
      have e16 : u 56 = .int .i64 (iz : Int) := hG.val 16 (by omega) (by simp [hdep])
      unfold Oper.wp
      simp only [execOp, fr7]
      go_simp
      exact ⟨_, by simp [setU, ex7, e15, e16], hG.put 17 (by omega) rfl⟩
    | 18 =>
      have ho' := ho
      simp at ho; subst ho
      simp [Region.binds] at hdep
      refine wpOp_plain ho' rfl ?_
      clear ho'
      have e17 : u 57 = .pointer (some ⟨mb, iz, none⟩) := hG.val 17 (by omega) (by simp [hdep])
      unfold Oper.wp
      simp only [execOp, fr7]
      go_simp
      exact ⟨_, by simp [setU, ex7, e17], hG.put 18 (by omega) rfl⟩
    | 19 =>
      have ho' := ho
      simp at ho; subst ho
      simp [Region.binds] at hdep
      refine wpOp_plain ho' rfl ?_
      clear ho'
      unfold Oper.wp
      simp only [execOp, fr7]
      go_simp
      exact ⟨_, by simp [setU, ex7], hG.put 19 (by omega) rfl⟩
    | 20 =>
      have ho' := ho
      simp at ho; subst ho
      simp [Region.binds] at hdep
      refine wpOp_plain ho' rfl ?_
      clear ho'
      have e19 : u 59 = .pointer (some ⟨Rb, 0, none⟩) := hG.val 19 (by omega) (by simp [hdep])
      unfold Oper.wp
      simp only [execOp, fr7]
      go_simp
      exact ⟨_, by simp [setU, ex7, e19], hG.put 20 (by omega) rfl⟩
    | 21 =>
      have ho' := ho
      simp at ho; subst ho
      simp [Region.binds] at hdep
      refine wpOp_plain ho' rfl ?_
      clear ho'
      have e20 : u 60 = .pointer (some ⟨Rb, 0, none⟩) := hG.val 20 (by omega) (by simp [hdep])
      unfold Oper.wp
      simp only [execOp, fr7]
      go_simp
      exact ⟨_, by simp [setU, ex7, e20], hG.put 21 (by omega) rfl⟩
    | 22 =>
      have ho' := ho
      simp at ho; subst ho
      simp [Region.binds] at hdep
      refine wpOp_plain ho' rfl ?_
      clear ho'
      have e21 : u 61 = .pointer (some ⟨Rb, 3, none⟩) := hG.val 21 (by omega) (by simp [hdep])
      unfold Oper.wp
      simp only [execOp, fr7]
      go_simp
      exact ⟨_, by simp [setU, ex7, e21], hG.put 22 (by omega) rfl⟩
    | 23 =>
      have ho' := ho
      simp at ho; subst ho
      simp [Region.binds] at hdep
      refine wpOp_plain ho' rfl ?_
      clear ho'
      have e14 : u 54 = .int .u64 seq := hG.val 14 (by omega) (by simp [hdep])
      have e18 : u 58 = .slice mo ml mc := hG.val 18 (by omega) (by simp [hdep])
      have e22 : u 62 = .int .u64 sf := hG.val 22 (by omega) (by simp [hdep])
      unfold Oper.wp
      simp only [execOp, fr7]
      go_simp
      exact ⟨_, by simp [setU, ex7, e14, e18, e22], hG.put 23 (by omega) rfl⟩
    | 24 =>
      have ho' := ho
      simp at ho; subst ho
      simp [Region.binds] at hdep
      refine wpOp_plain ho' rfl ?_
      clear ho'
      have e12 : u 52 = (curV FF SS o name) := hG.val 12 (by omega) (by simp [hdep])
      have e23 : u 63 = .agg #[.int .u64 seq, .slice mo ml mc, .int .u64 sf] := hG.val 23 (by omega) (by simp [hdep])
      have hcall := keep_any (SS o name) ⟨seq, mo, ml, mc, sf⟩ B (curV FF SS o name) wx ((HKa.out.cur ho0 name).later (hG.pre hd).1) (Nat.le_trans hB (hG.pre hd).1.size) (HKa.out.rise o name ho0) (by have := HKa.out.len o name ho0; omega)
      simp only [KM.val] at hcall
      unfold Oper.wp
      simp only [execOp, fr7]
      go_simp
      refine hcall.mono ?_
      rintro e w' ⟨v', rfl, hs, hg, hl⟩
      exact ⟨_, by simp [setU, e12, e23], hG.put16 hd (by simp [hdep]) HKa.out ho0 hs hg hl⟩
    | 25 =>
      have ho' := ho
      simp at ho; subst ho
      simp [Region.binds] at hdep
      refine wpOp_plain ho' rfl ?_
      clear ho'
      have e4 : u 44 = .map (some (KB o)) := hG.val 4 (by omega) (by simp [hdep])
      have e5 : u 45 = .int .u64 name := hG.val 5 (by omega) (by simp [hdep])
      obtain ⟨v', w3, FF', NN', e16, hrun, hka, hko⟩ := hG.upd hd (by simp [hdep]) HKa.out ho0 hn (by omega)
      unfold Oper.wp
      simp only [execOp, fr7]
      go_simp
      exact ⟨u, by simp [e16, e4, e5], hG.put17 (by simp [hdep]) hka hko⟩
    | i + 26 => simp at ho
  · intro d a w1 hI hall
    obtain ⟨u, rfl, hG⟩ := hI
    obtain ⟨FF', NN', hka⟩ := hG.fin (hall 25 (by decide))
    exact HK.out u w1 FF' NN' hka hG.ko
end Go.Proofs.Ybulkdkqw.lawS5586AWhole
