import Derived.Test.YbulkdkqwQKept
namespace Go.Proofs.Ybulkdkqw.lawS5586AWhole
open Go.ChangeShapes Go.WideShapes Go.ChangeAt Go.RowKit

/-- The code behind the first k statements. -/
def tailN : Nat → Code → Code
  | 0, c => c
  | k + 1, .seq _ b => tailN k b
  | _ + 1, c => c

/-- What the operations of the keeping region hand on. -/
def ex31 (_Rb blk kb eb : Nat) (name seq sf : Int) (mo : Option Addr) (ml mc : Nat) (cv : Value) : Nat → Value
  | 0 => .pointer (some ⟨blk, 0, none⟩)
  | 1 => .pointer (some ⟨blk, 0, none⟩)
  | 2 => .pointer (some ⟨blk, 8, none⟩)
  | 3 => .map (some kb)
  | 4 => .int .u64 name
  | 5 => .pointer (some ⟨blk, 0, none⟩)
  | 6 => .pointer (some ⟨blk, 0, none⟩)
  | 7 => .pointer (some ⟨blk, 8, none⟩)
  | 8 => .map (some kb)
  | 9 => .int .u64 name
  | 10 => cv
  | 11 => .pointer (some ⟨eb, 2, none⟩)
  | 12 => .int .u64 seq
  | 13 => .slice mo ml mc
  | 14 => .int .u64 sf
  | 15 => .agg #[.int .u64 seq, .slice mo ml mc, .int .u64 sf]
  | _ => undef

set_option maxRecDepth 100000 in
def fr31 (Rb blk eb : Nat) (name sf : Int) (mo : Option Addr) (ml mc : Nat) (vn : Value) (v1 v4 v6 v7 v8 v11 v13 v14 v15 v16 v17 v18 v19 v20 v21 v22 v23 v24 v25 v26 v27 v28 v29 v30 v31 v32 v33 v34 v35 v36 v37 v38 v39 v40 v41 v42 v43 v44 v45 v46 v47 v48 v49 v50 v51 v52 v53 v54 v55 v56 v57 v58 v59 v60 v61 v62 v63 v64 v65 v66 v67 v68 v69 v70 v71 v72 v73 v74 v75 v76 v77 v78 v79 v80 v81 v82 v83 v84 v85 v86 v87 v88 v89 v90 v91 v92 v93 v94 v95 v96 v97 v115 : Value) (u : Nat → Value) : Act := ⟨#[.pointer (some ⟨Rb, 0, none⟩), v1, .slice mo ml mc, .int .u64 sf, v4, .pointer (some ⟨eb, 0, none⟩), v6, v7, v8, .pointer (some ⟨blk, 0, none⟩), .int .u64 name, v11, vn, v13, v14, v15, v16, v17, v18, v19, v20, v21, v22, v23, v24, v25, v26, v27, v28, v29, v30, v31, v32, v33, v34, v35, v36, v37, v38, v39, v40, v41, v42, v43, v44, v45, v46, v47, v48, v49, v50, v51, v52, v53, v54, v55, v56, v57, v58, v59, v60, v61, v62, v63, v64, v65, v66, v67, v68, v69, v70, v71, v72, v73, v74, v75, v76, v77, v78, v79, v80, v81, v82, v83, v84, v85, v86, v87, v88, v89, v90, v91, v92, v93, v94, v95, v96, v97, u 98, u 99, u 100, u 101, u 102, u 103, u 104, u 105, u 106, u 107, u 108, u 109, u 110, u 111, u 112, u 113, u 114, v115], []⟩

/-- What holds at every moment of the keeping region (it began in w). -/
structure G31 (w : World) (B no : Nat) (KB : Nat → Nat) (FF : Nat → Int → Value) (SS : Nat → Int → List KM) (m o : Nat) (Rb blk kb eb : Nat) (name seq sf : Int) (mo : Option Addr) (ml mc : Nat) (cv : Value) (d : Nat → Bool) (u : Nat → Value) (w' : World) : Prop where
  ko : KOnly no KB w w'
  val : ∀ i, i < 16 → d i = true → u (98 + i) = ex31 Rb blk kb eb name seq sf mo ml mc cv i
  pre : d 16 = false → Below w.heap.size w w' ∧ d 17 = false
  mid : d 16 = true → d 17 = false → ∃ wx v', Below w.heap.size w wx ∧ u 114 = v' ∧ Sl EK 63 w' B v' (ins (SS o name) ⟨seq, mo, ml, mc, sf⟩) ∧ wx.grownBy w' (curV FF SS o name).ownBlock ∧ Loc wx (curV FF SS o name) v'
  fin : d 17 = true → ∃ FF' NN', KeptAll w' B no KB FF' (set2 SS o name (ins (SS o name) ⟨seq, mo, ml, mc, sf⟩)) NN' (m + 1)
  o16 : d 16 = true → d 10 = true
section
variable {w w' w2 : World} {B no : Nat} {KB : Nat → Nat} {FF : Nat → Int → Value} {SS : Nat → Int → List KM} {m o : Nat} {Rb blk kb eb : Nat} {name seq sf : Int} {mo : Option Addr} {ml mc : Nat} {cv : Value} {d : Nat → Bool} {u : Nat → Value}
theorem G31.put (h : G31 w B no KB FF SS m o Rb blk kb eb name seq sf mo ml mc cv d u w') (i : Nat) (hi : i < 16) {v : Value} (hv : v = ex31 Rb blk kb eb name seq sf mo ml mc cv i) : G31 w B no KB FF SS m o Rb blk kb eb name seq sf mo ml mc cv (fun j => decide (j = i) || d j) (setU u (98 + i) v) w' where
  ko := h.ko
  val := fun j hj hd => by
    unfold setU
    by_cases e : j = i
    · subst e; rw [if_pos rfl]; exact hv
    · rw [if_neg (by omega)]
      exact h.val j hj (by simpa [e] using hd)
  pre := fun hd => by
    have h1 : ¬ 16 = i := by omega
    have h2 : ¬ 17 = i := by omega
    have := h.pre (by simpa [h1] using hd)
    exact ⟨this.1, by simpa [h2] using this.2⟩
  mid := fun hd hd2 => by
    have h1 : ¬ 16 = i := by omega
    have h2 : ¬ 17 = i := by omega
    obtain ⟨wx, v', a, b, c⟩ := h.mid (by simpa [h1] using hd) (by simpa [h2] using hd2)
    exact ⟨wx, v', a, by unfold setU; rw [if_neg (by omega)]; exact b, c⟩
  fin := fun hd => by
    have h2 : ¬ 17 = i := by omega
    exact h.fin (by simpa [h2] using hd)
  o16 := fun hd => by
    have h1 : ¬ 16 = i := by omega
    have := h.o16 (by simpa [h1] using hd)
    simp [this]
theorem G31.put16 (h : G31 w B no KB FF SS m o Rb blk kb eb name seq sf mo ml mc cv d u w') (hd : d 16 = false) (h10 : d 10 = true) {v' : Value} {NN : Nat → Nat} (hka : KeptAll w B no KB FF SS NN m) (ho : o < no) (hs : Sl EK 63 w2 B v' (ins (SS o name) ⟨seq, mo, ml, mc, sf⟩)) (hg : w'.grownBy w2 (curV FF SS o name).ownBlock) (hl : Loc w' (curV FF SS o name) v') : G31 w B no KB FF SS m o Rb blk kb eb name seq sf mo ml mc cv (fun j => decide (j = 16) || d j) (setU u 114 v') w2 where
  ko := h.ko.trans (KOnly.of_row hg (fun g e => ((hka.cur ho name).later (h.pre hd).1).typed e) (fun g e => hka.curHi ho name e))
  val := fun j hj hd => by
    unfold setU
    rw [if_neg (by omega)]
    exact h.val j hj (by have : ¬ j = 16 := by omega
                         simpa [this] using hd)
  pre := fun hd => by simp at hd
  mid := fun _ _ => ⟨w', v', (h.pre hd).1, by simp [setU], hs, hg, hl⟩
  fin := fun h1 => by
    have := (h.pre hd).2
    simp [this] at h1
  o16 := fun _ => by simp [h10]
theorem G31.put17 (h : G31 w B no KB FF SS m o Rb blk kb eb name seq sf mo ml mc cv d u w') (h16 : d 16 = true) {FF' : Nat → Int → Value} {NN' : Nat → Nat} (hk : KeptAll w2 B no KB FF' (set2 SS o name (ins (SS o name) ⟨seq, mo, ml, mc, sf⟩)) NN' (m + 1)) (hko : KOnly no KB w' w2) : G31 w B no KB FF SS m o Rb blk kb eb name seq sf mo ml mc cv (fun j => decide (j = 17) || d j) u w2 where
  ko := h.ko.trans hko
  val := fun j hj hd => h.val j hj (by have : ¬ j = 17 := by omega
                                       simpa [this] using hd)
  pre := fun hd => by simp [h16] at hd
  mid := fun _ hd => by simp at hd
  fin := fun _ => ⟨FF', NN', hk⟩
  o16 := fun _ => by have := h.o16 h16; simp [this]
/-- The store. -/
theorem G31.upd (h : G31 w B no KB FF SS m o Rb blk kb eb name seq sf mo ml mc cv d u w') (h17 : d 17 = false) (h16 : d 16 = true) {NN : Nat → Nat} (hka : KeptAll w B no KB FF SS NN m) (ho : o < no) (hn : U name) (hm : m < 1000000) :
    ∃ v' w3 FF' NN', u 114 = v' ∧ (Instr.mapUpdate 34 (.map (some (KB o))) (.int .u64 name) v').run Yba.prog w' = .ok () w3 ∧ KeptAll w3 B no KB FF' (set2 SS o name (ins (SS o name) ⟨seq, mo, ml, mc, sf⟩)) NN' (m + 1) ∧ KOnly no KB w' w3 := by
  obtain ⟨wx, v', hb, e, hs, hg, hl⟩ := h.mid h16 h17
  obtain ⟨w3, hrun, hk, hg2⟩ := (hka.later hb).step ho hn hm hs hg hl
  exact ⟨v', w3, _, _, e, hrun, hk, KOnly.of_map ho (hka.base o ho) hg2⟩
end

/-- What arrived hands back. -/
def ArrP (B no : Nat) (KB : Nat → Nat) (w0 : World) (now : List Int) (SS' : Nat → Int → List KM) (m : Nat) (e : Ending) (w' : World) : Prop :=
  ∃ v FF' NN', e = .returned v ∧ Sl E64 22 w' w0.heap.size v now ∧ KeptAll w' B no KB FF' SS' NN' (m + 1) ∧ KOnly no KB w0 w'

theorem KeptAll.up {w : World} {B no m : Nat} {KB : Nat → Nat} {FF : Nat → Int → Value} {SS : Nat → Int → List KM} {NN : Nat → Nat} (h : KeptAll w B no KB FF SS NN m) : KeptAll w B no KB FF SS NN (m + 1) :=
  { h with
    len := fun o a ho => Nat.le_succ_of_le (h.len o a ho)
    num := fun o ho => Nat.le_succ_of_le (h.num o ho) }

theorem Sl.konly64 {w w' : World} {C no : Nat} {KB : Nat → Nat} {v : Value} {L : List Int} {Rb pm um nm : Nat} {ps : List Peer} (h : Sl E64 22 w C v L) (hs : Sep w Rb pm um nm ps no KB) (hk : KOnly no KB w w') : Sl E64 22 w' C v L := by
  refine h.of_block (fun g hg => ?_)
  obtain ⟨cur, hcur⟩ := h.typed hg
  exact hk.block g (h.lt hg).2 (cells_ne hcur (by decide)) (hs.ne hcur)


def pick17 : Code → Code
  | .seq (.seq _ (.cond _ c _)) _ => c
  | c => c

set_option linter.unusedVariables false in
set_option maxRecDepth 1000000 in
set_option maxHeartbeats 4000000 in
/-- The keeping region. -/
theorem arr17 {v1 v4 v6 v7 v8 v11 v13 v14 v15 v16 v17 v18 v19 v20 v21 v22 v23 v24 v25 v26 v27 v28 v29 v30 v31 v32 v33 v34 v35 v36 v37 v38 v39 v40 v41 v42 v43 v44 v45 v46 v47 v48 v49 v50 v51 v52 v53 v54 v55 v56 v57 v58 v59 v60 v61 v62 v63 v64 v65 v66 v67 v68 v69 v70 v71 v72 v73 v74 v75 v76 v77 v78 v79 v80 v81 v82 v83 v84 v85 v86 v87 v88 v89 v90 v91 v92 v93 v94 v95 v96 v97 v98 v99 v100 v101 v102 v103 v104 v105 v106 v107 v108 v109 v110 v111 v112 v113 v114 v115 : Value} (w : World) (B Rb : Nat) (sf : Int) (vids : Value) (ids : List Int) (pm um nm mk : Nat) (ps : List Peer) (unm : List Int) (ucnt : Nat) (no : Nat) (KB : Nat → Nat) (FF : Nat → Int → Value) (SS : Nat → Int → List KM) (NN : Nat → Nat) (m o eb : Nat) (ec : Array Value) (p : Peer) (name seq : Int) (mo : Option Addr) (ml mc : Nat) (vn : Value)
    (hRt : Rt w B Rb sf vids ids pm um nm mk ps unm ucnt) (hSep : Sep w Rb pm um nm ps no KB) (hKa : KeptAll w B no KB FF SS NN m) (hB : B ≤ w.heap.size) (hm : m < 90000) (ho0 : o < no) (hkb : KB o = p.kb) (hp : p ∈ ps) (hn : U name)
    (heb : w.heap[eb]? = some (.cells ec 56 (0, 0))) (hes : w.cell? ⟨eb, 2, none⟩ = some (.int .u64 seq)) (K : Act → World → Prop) (Q : Exit → Act → World → Prop)
    (hK : ∀ u w' FF' NN', KeptAll w' B no KB FF' (set2 SS o name (ins (SS o name) ⟨seq, mo, ml, mc, sf⟩)) NN' (m + 1) → KOnly no KB w w' → K (fr31 Rb p.blk eb name sf mo ml mc vn v1 v4 v6 v7 v8 v11 v13 v14 v15 v16 v17 v18 v19 v20 v21 v22 v23 v24 v25 v26 v27 v28 v29 v30 v31 v32 v33 v34 v35 v36 v37 v38 v39 v40 v41 v42 v43 v44 v45 v46 v47 v48 v49 v50 v51 v52 v53 v54 v55 v56 v57 v58 v59 v60 v61 v62 v63 v64 v65 v66 v67 v68 v69 v70 v71 v72 v73 v74 v75 v76 v77 v78 v79 v80 v81 v82 v83 v84 v85 v86 v87 v88 v89 v90 v91 v92 v93 v94 v95 v96 v97 v115 u) w')
    (code : Code) (hc : Yba.f31.body.map (fun c => pick17 (tailN 8 c)) = some code) :
    Code.wp Yba.prog code (Exit.then K Q) ⟨#[.pointer (some ⟨Rb, 0, none⟩), v1, .slice mo ml mc, .int .u64 sf, v4, .pointer (some ⟨eb, 0, none⟩), v6, v7, v8, .pointer (some ⟨p.blk, 0, none⟩), .int .u64 name, v11, vn, v13, v14, v15, v16, v17, v18, v19, v20, v21, v22, v23, v24, v25, v26, v27, v28, v29, v30, v31, v32, v33, v34, v35, v36, v37, v38, v39, v40, v41, v42, v43, v44, v45, v46, v47, v48, v49, v50, v51, v52, v53, v54, v55, v56, v57, v58, v59, v60, v61, v62, v63, v64, v65, v66, v67, v68, v69, v70, v71, v72, v73, v74, v75, v76, v77, v78, v79, v80, v81, v82, v83, v84, v85, v86, v87, v88, v89, v90, v91, v92, v93, v94, v95, v96, v97, v98, v99, v100, v101, v102, v103, v104, v105, v106, v107, v108, v109, v110, v111, v112, v113, v114, v115], []⟩ w := by
  cases hc
  conv => arg 2; whnf
  have HKa : Hid (KeptAll w B no KB FF SS NN m) := hKa
  have HRt : Hid (Rt w B Rb sf vids ids pm um nm mk ps unm ucnt) := hRt
  have HSep : Hid (Sep w Rb pm um nm ps no KB) := hSep
  have HK : Hid (∀ u w' FF' NN', KeptAll w' B no KB FF' (set2 SS o name (ins (SS o name) ⟨seq, mo, ml, mc, sf⟩)) NN' (m + 1) → KOnly no KB w w' → K (fr31 Rb p.blk eb name sf mo ml mc vn v1 v4 v6 v7 v8 v11 v13 v14 v15 v16 v17 v18 v19 v20 v21 v22 v23 v24 v25 v26 v27 v28 v29 v30 v31 v32 v33 v34 v35 v36 v37 v38 v39 v40 v41 v42 v43 v44 v45 v46 v47 v48 v49 v50 v51 v52 v53 v54 v55 v56 v57 v58 v59 v60 v61 v62 v63 v64 v65 v66 v67 v68 v69 v70 v71 v72 v73 v74 v75 v76 v77 v78 v79 v80 v81 v82 v83 v84 v85 v86 v87 v88 v89 v90 v91 v92 v93 v94 v95 v96 v97 v115 u) w') := hK
  have leb : eb < w.heap.size := World.block_lt_of_cell? w _ hes
  clear hKa hRt hSep hK
  refine wp_region_inv cmixed (back_of (by kernel_rfl)) (fun d a w' => ∃ u, a = fr31 Rb p.blk eb name sf mo ml mc vn v1 v4 v6 v7 v8 v11 v13 v14 v15 v16 v17 v18 v19 v20 v21 v22 v23 v24 v25 v26 v27 v28 v29 v30 v31 v32 v33 v34 v35 v36 v37 v38 v39 v40 v41 v42 v43 v44 v45 v46 v47 v48 v49 v50 v51 v52 v53 v54 v55 v56 v57 v58 v59 v60 v61 v62 v63 v64 v65 v66 v67 v68 v69 v70 v71 v72 v73 v74 v75 v76 v77 v78 v79 v80 v81 v82 v83 v84 v85 v86 v87 v88 v89 v90 v91 v92 v93 v94 v95 v96 v97 v115 u ∧ G31 w B no KB FF SS m o Rb p.blk p.kb eb name seq sf mo ml mc (curV FF SS o name) d u w') ?_ ?_ ?_
  · exact ⟨fun s => (#[v98, v99, v100, v101, v102, v103, v104, v105, v106, v107, v108, v109, v110, v111, v112, v113, v114] : Array Value).getD (s - 98) undef, rfl, KOnly.of_below ((Below.refl _ _).drew), by simp, fun _ => ⟨(Below.refl _ _).drew, rfl⟩, by simp, by simp, by simp⟩
  · intro d a wx i o' hI ho hd hdep
    obtain ⟨u, rfl, hG⟩ := hI
    have hR := HRt.out.konly HSep.out hG.ko
    have mp := (hR.peers p hp).c8
    have me := (hG.ko.cell (p := ⟨eb, 2, none⟩) leb (cells_ne heb (by decide)) (HSep.out.ne heb)).trans hes
    have hlk : d 16 = false → (Instr.lookup 34 (.map (some p.kb)) (.int .u64 name) false).run Yba.prog wx = .ok (curV FF SS o name) wx := fun h16 => by
      have := ((HKa.out.later (hG.pre h16).1).map o ho0).look Yba.underlying34 (zero68 wx) hn
      rw [hkb] at this
      exact this
    match i with
    | 0 =>
      have ho' := ho
      simp at ho; subst ho
      simp [Region.binds] at hdep
      refine wpOp_plain ho' rfl ?_
      clear ho'
      unfold Oper.wp
      simp only [execOp, fr31]
      go_simp
      exact ⟨_, by simp [setU, ex31], hG.put 0 (by omega) rfl⟩
    | 1 =>
      have ho' := ho
      simp at ho; subst ho
      simp [Region.binds] at hdep
      refine wpOp_plain ho' rfl ?_
      clear ho'
      have e0 : u 98 = .pointer (some ⟨p.blk, 0, none⟩) := hG.val 0 (by omega) (by simp [hdep])
      unfold Oper.wp
      simp only [execOp, fr31]
      go_simp
      exact ⟨_, by simp [setU, ex31, e0], hG.put 1 (by omega) rfl⟩
    | 2 =>
      have ho' := ho
      simp at ho; subst ho
      simp [Region.binds] at hdep
      refine wpOp_plain ho' rfl ?_
      clear ho'
      have e1 : u 99 = .pointer (some ⟨p.blk, 0, none⟩) := hG.val 1 (by omega) (by simp [hdep])
      unfold Oper.wp
      simp only [execOp, fr31]
      go_simp
      exact ⟨_, by simp [setU, ex31, e1], hG.put 2 (by omega) rfl⟩
    | 3 =>
      have ho' := ho
      simp at ho; subst ho
      simp [Region.binds] at hdep
      refine wpOp_plain ho' rfl ?_
      clear ho'
      have e2 : u 100 = .pointer (some ⟨p.blk, 8, none⟩) := hG.val 2 (by omega) (by simp [hdep])
      unfold Oper.wp
      simp only [execOp, fr31]
      go_simp
      exact ⟨_, by simp [setU, ex31, e2], hG.put 3 (by omega) rfl⟩
    | 4 =>
      have ho' := ho
      simp at ho; subst ho
      simp [Region.binds] at hdep
      refine wpOp_plain ho' rfl ?_
      clear ho'
      unfold Oper.wp
      simp only [execOp, fr31]
      go_simp
      exact ⟨_, by simp [setU, ex31], hG.put 4 (by omega) rfl⟩
    | 5 =>
      have ho' := ho
      simp at ho; subst ho
      simp [Region.binds] at hdep
      refine wpOp_plain ho' rfl ?_
      clear ho'
      unfold Oper.wp
      simp only [execOp, fr31]
      go_simp
      exact ⟨_, by simp [setU, ex31], hG.put 5 (by omega) rfl⟩
    | 6 =>
      have ho' := ho
      simp at ho; subst ho
      simp [Region.binds] at hdep
      refine wpOp_plain ho' rfl ?_
      clear ho'
      have e5 : u 103 = .pointer (some ⟨p.blk, 0, none⟩) := hG.val 5 (by omega) (by simp [hdep])
      unfold Oper.wp
      simp only [execOp, fr31]
      go_simp
      exact ⟨_, by simp [setU, ex31, e5], hG.put 6 (by omega) rfl⟩
    | 7 =>
      have ho' := ho
      simp at ho; subst ho
      simp [Region.binds] at hdep
      refine wpOp_plain ho' rfl ?_
      clear ho'
      have e6 : u 104 = .pointer (some ⟨p.blk, 0, none⟩) := hG.val 6 (by omega) (by simp [hdep])
      unfold Oper.wp
      simp only [execOp, fr31]
      go_simp
      exact ⟨_, by simp [setU, ex31, e6], hG.put 7 (by omega) rfl⟩
    | 8 =>
      have ho' := ho
      simp at ho; subst ho
      simp [Region.binds] at hdep
      refine wpOp_plain ho' rfl ?_
      clear ho'
      have e7 : u 105 = .pointer (some ⟨p.blk, 8, none⟩) := hG.val 7 (by omega) (by simp [hdep])
      unfold Oper.wp
      simp only [execOp, fr31]
      go_simp
      exact ⟨_, by simp [setU, ex31, e7], hG.put 8 (by omega) rfl⟩
    | 9 =>
      have ho' := ho
      simp at ho; subst ho
      simp [Region.binds] at hdep
      refine wpOp_plain ho' rfl ?_
      clear ho'
      unfold Oper.wp
      simp only [execOp, fr31]
      go_simp
      exact ⟨_, by simp [setU, ex31], hG.put 9 (by omega) rfl⟩
    | 10 =>
      have ho' := ho
      simp at ho; subst ho
      simp [Region.binds] at hdep
      refine wpOp_plain ho' rfl ?_
      clear ho'
      have e8 : u 106 = .map (some p.kb) := hG.val 8 (by omega) (by simp [hdep])
      have e9 : u 107 = .int .u64 name := hG.val 9 (by omega) (by simp [hdep])
      have h16 : d 16 = false := by
        cases h : d 16 with
        | false => rfl
        | true => have := hG.o16 h; rw [hd] at this; cases this
      have hl10 := hlk h16
      unfold Oper.wp
      simp only [execOp, fr31]
      go_simp
      exact ⟨_, by simp [setU, ex31, e8, e9], hG.put 10 (by omega) rfl⟩
    | 11 =>
      have ho' := ho
      simp at ho; subst ho
      simp [Region.binds] at hdep
      refine wpOp_plain ho' rfl ?_
      clear ho'
      unfold Oper.wp
      simp only [execOp, fr31]
      go_simp
      exact ⟨_, by simp [setU, ex31], hG.put 11 (by omega) rfl⟩
    | 12 =>
      have ho' := ho
      simp at ho; subst ho
      simp [Region.binds] at hdep
      refine wpOp_plain ho' rfl ?_
      clear ho'
      have e11 : u 109 = .pointer (some ⟨eb, 2, none⟩) := hG.val 11 (by omega) (by simp [hdep])
      unfold Oper.wp
      simp only [execOp, fr31]
      go_simp
      exact ⟨_, by simp [setU, ex31, e11], hG.put 12 (by omega) rfl⟩
    | 13 =>
      have ho' := ho
      simp at ho; subst ho
      simp [Region.binds] at hdep
      refine wpOp_plain ho' rfl ?_
      clear ho'
      unfold Oper.wp
      simp only [execOp, fr31]
      go_simp
      exact ⟨_, by simp [setU, ex31], hG.put 13 (by omega) rfl⟩
    | 14 =>
      have ho' := ho
      simp at ho; subst ho
      simp [Region.binds] at hdep
      refine wpOp_plain ho' rfl ?_
      clear ho'
      unfold Oper.wp
      simp only [execOp, fr31]
      go_simp
      exact ⟨_, by simp [setU, ex31], hG.put 14 (by omega) rfl⟩
    | 15 =>
      have ho' := ho
      simp at ho; subst ho
      simp [Region.binds] at hdep
      refine wpOp_plain ho' rfl ?_
      clear ho'
      have e12 : u 110 = .int .u64 seq := hG.val 12 (by omega) (by simp [hdep])
      have e13 : u 111 = .slice mo ml mc := hG.val 13 (by omega) (by simp [hdep])
      have e14 : u 112 = .int .u64 sf := hG.val 14 (by omega) (by simp [hdep])
      unfold Oper.wp
      simp only [execOp, fr31]
      go_simp
      exact ⟨_, by simp [setU, ex31, e12, e13, e14], hG.put 15 (by omega) rfl⟩
    | 16 =>
      have ho' := ho
      simp at ho; subst ho
      simp [Region.binds] at hdep
      refine wpOp_plain ho' rfl ?_
      clear ho'
      have e10 : u 108 = (curV FF SS o name) := hG.val 10 (by omega) (by simp [hdep])
      have e15 : u 113 = .agg #[.int .u64 seq, .slice mo ml mc, .int .u64 sf] := hG.val 15 (by omega) (by simp [hdep])
      have hcall := keep_any (SS o name) ⟨seq, mo, ml, mc, sf⟩ B (curV FF SS o name) wx ((HKa.out.cur ho0 name).later (hG.pre hd).1) (Nat.le_trans hB (hG.pre hd).1.size) (HKa.out.rise o name ho0) (by have := HKa.out.len o name ho0; omega)
      simp only [KM.val] at hcall
      unfold Oper.wp
      simp only [execOp, fr31]
      go_simp
      refine hcall.mono ?_
      rintro e w' ⟨v', rfl, hs, hg, hl⟩
      exact ⟨_, by simp [setU, e10, e15], hG.put16 hd (by simp [hdep]) HKa.out ho0 hs hg hl⟩
    | 17 =>
      have ho' := ho
      simp at ho; subst ho
      simp [Region.binds] at hdep
      refine wpOp_plain ho' rfl ?_
      clear ho'
      have e3 : u 101 = .map (some p.kb) := hG.val 3 (by omega) (by simp [hdep])
      have e4 : u 102 = .int .u64 name := hG.val 4 (by omega) (by simp [hdep])
      obtain ⟨v', w3, FF', NN', e16, hrun, hka, hko⟩ := hG.upd hd (by simp [hdep]) HKa.out ho0 hn (by omega)
      rw [hkb] at hrun
      unfold Oper.wp
      simp only [execOp, fr31]
      go_simp
      exact ⟨u, by simp [e16, e3, e4], hG.put17 (by simp [hdep]) hka hko⟩
    | i + 18 => simp at ho
  · intro d a w1 hI hall
    obtain ⟨u, rfl, hG⟩ := hI
    obtain ⟨FF', NN', hka⟩ := hG.fin (hall 17 (by decide))
    exact HK.out u w1 FF' NN' hka hG.ko

set_option linter.unusedVariables false in
set_option maxRecDepth 1000000 in
set_option maxHeartbeats 4000000 in
/-- arrived, from the keeping on. -/
theorem arr8 {v1 v4 v6 v7 v8 v13 v14 v15 v16 v17 v18 v19 v20 v21 v22 v23 v24 v25 v26 v27 v28 v29 v30 v31 v32 v33 v34 v35 v36 v37 v38 v39 v40 v41 v42 v43 v44 v45 v46 v47 v48 v49 v50 v51 v52 v53 v54 v55 v56 v57 v58 v59 v60 v61 v62 v63 v64 v65 v66 v67 v68 v69 v70 v71 v72 v73 v74 v75 v76 v77 v78 v79 v80 v81 v82 v83 v84 v85 v86 v87 v88 v89 v90 v91 v92 v93 v94 v95 v96 v97 v98 v99 v100 v101 v102 v103 v104 v105 v106 v107 v108 v109 v110 v111 v112 v113 v114 v115 : Value} (w0 w : World) (B Rb : Nat) (sf : Int) (vids : Value) (ids : List Int) (pm um nm mk : Nat) (ps : List Peer) (unm : List Int) (ucnt : Nat) (no : Nat) (KB : Nat → Nat) (FF : Nat → Int → Value) (SS : Nat → Int → List KM) (NN : Nat → Nat) (m o eb : Nat) (ec : Array Value) (p : Peer)
    (name seq : Int) (mo an at' : Option Addr) (ml mc nl nc tl tc : Nat) (now : List Int)
    (hko : KOnly no KB w0 w) (hRt : Rt w B Rb sf vids ids pm um nm mk ps unm ucnt) (hSep : Sep w Rb pm um nm ps no KB) (hKa : KeptAll w B no KB FF SS NN m) (hB : B ≤ w.heap.size) (hm : m < 90000) (ho0 : o < no) (hkb : KB o = p.kb) (hp : p ∈ ps) (hn : U name) (hu : ∀ a ∈ unm, U a)
    (heb : w.heap[eb]? = some (.cells ec 56 (0, 0))) (hes : w.cell? ⟨eb, 2, none⟩ = some (.int .u64 seq)) (SS' : Nat → Int → List KM) (hSS : SS' = (if (decide (nl < tl) || awaitB unm name) = true then set2 SS o name (ins (SS o name) ⟨seq, mo, ml, mc, sf⟩) else SS)) (hnow : Sl E64 22 w w0.heap.size (.slice an nl nc) now)
    (code : Code) (hc : Yba.f31.body.map (tailN 8) = some code) :
    Code.wp Yba.prog code (bodyPost Yba.prog Yba.f31 (fun e w' => ArrP B no KB w0 now SS' m e w')) ⟨#[.pointer (some ⟨Rb, 0, none⟩), v1, .slice mo ml mc, .int .u64 sf, v4, .pointer (some ⟨eb, 0, none⟩), v6, v7, v8, .pointer (some ⟨p.blk, 0, none⟩), .int .u64 name, .slice at' tl tc, .slice an nl nc, v13, v14, v15, v16, v17, v18, v19, v20, v21, v22, v23, v24, v25, v26, v27, v28, v29, v30, v31, v32, v33, v34, v35, v36, v37, v38, v39, v40, v41, v42, v43, v44, v45, v46, v47, v48, v49, v50, v51, v52, v53, v54, v55, v56, v57, v58, v59, v60, v61, v62, v63, v64, v65, v66, v67, v68, v69, v70, v71, v72, v73, v74, v75, v76, v77, v78, v79, v80, v81, v82, v83, v84, v85, v86, v87, v88, v89, v90, v91, v92, v93, v94, v95, v96, v97, v98, v99, v100, v101, v102, v103, v104, v105, v106, v107, v108, v109, v110, v111, v112, v113, v114, v115], []⟩ w := by
  cases hc
  conv => arg 2; whnf
  have HKo : Hid (KOnly no KB w0 w) := hko
  have HRt : Hid (Rt w B Rb sf vids ids pm um nm mk ps unm ucnt) := hRt
  have HSep : Hid (Sep w Rb pm um nm ps no KB) := hSep
  have HKa0 : Hid (KeptAll w B no KB FF SS NN m) := hKa
  have HNow : Hid (Sl E64 22 w w0.heap.size (.slice an nl nc) now) := hnow
  have HU : Hid (∀ a ∈ unm, U a) := hu
  have leb : eb < w.heap.size := World.block_lt_of_cell? w _ hes
  clear hko hRt hSep hKa hnow hu
  refine wp_seq_k ?_
  intro K hK
  have HK := show Hid _ from hK
  clear hK
  have HSS : Hid (SS' = (if (decide (nl < tl) || awaitB unm name) = true then set2 SS o name (ins (SS o name) ⟨seq, mo, ml, mc, sf⟩) else SS)) := hSS
  clear hSS
  by_cases hlt : nl < tl
  · have hltb : decide ((nl : Int) < (tl : Int)) = true := by simp; omega
    have HKeep : Hid ((decide (nl < tl) || awaitB unm name) = true) := by show (decide (nl < tl) || awaitB unm name) = true; simp [hlt]
    go_wp2_with fail
    refine arr17 w B Rb sf vids ids pm um nm mk ps unm ucnt no KB FF SS NN m o eb ec p name seq mo ml mc (.slice an nl nc) HRt.out HSep.out HKa0.out hB hm ho0 hkb hp hn heb hes _ _ ?_ _ rfl
    intro u w' FF' NN' hka hko
    have H : Hid (ArrP B no KB w0 now SS' m (.returned (.slice an nl nc)) w') := by
      show ArrP _ _ _ _ _ _ _ _ _
      rw [HSS.out, HKeep.out, if_pos rfl]
      exact ⟨_, FF', NN', rfl, HNow.out.konly64 HSep.out hko, hka, HKo.out.trans hko⟩
    clear hka hko
    simp only [fr31]
    refine HK.out _ _ ?_
    go_wp2_with fail
    go_ret
    exact H.out
  · have hltb : decide ((nl : Int) < (tl : Int)) = false := by simp; omega
    have HLt : Hid (decide (nl < tl) = false) := by show decide (nl < tl) = false; simpa using hlt
    go_wp2_with fail
    refine (awaited_any HRt.out hn HU.out).mono ?_
    rintro e w1 ⟨rfl, hb1⟩
    have HB1 : Hid (Below w.heap.size w w1) := hb1
    cases haw : awaitB unm name with
    | true =>
      have HKeep : Hid ((decide (nl < tl) || awaitB unm name) = true) := by show (decide (nl < tl) || awaitB unm name) = true; simp [haw]
      have heb1 : w1.heap[eb]? = some (.cells ec 56 (0, 0)) := (hb1.block _ leb).trans heb
      have hes1 : w1.cell? ⟨eb, 2, none⟩ = some (.int .u64 seq) := (hb1.cell leb).trans hes
      have hsep1 : Sep w1 Rb pm um nm ps no KB := HSep.out.konly (KOnly.of_below hb1) (HKa0.out.later hb1).maps
      have HSep1 : Hid (Sep w1 Rb pm um nm ps no KB) := hsep1
      clear hb1 hsep1
      go_wp2_with fail
      refine arr17 w1 B Rb sf vids ids pm um nm mk ps unm ucnt no KB FF SS NN m o eb ec p name seq mo ml mc (.slice an nl nc) (HRt.out.later HB1.out) HSep1.out (HKa0.out.later HB1.out) (Nat.le_trans hB HB1.out.size) hm ho0 hkb hp hn heb1 hes1 _ _ ?_ _ rfl
      intro u w' FF' NN' hka hko
      have H : Hid (ArrP B no KB w0 now SS' m (.returned (.slice an nl nc)) w') := by
        show ArrP _ _ _ _ _ _ _ _ _
        rw [HSS.out, HKeep.out, if_pos rfl]
        exact ⟨_, FF', NN', rfl, (HNow.out.later HB1.out).konly64 HSep1.out hko, hka, (HKo.out.trans (KOnly.of_below HB1.out)).trans hko⟩
      clear hka hko
      simp only [fr31]
      refine HK.out _ _ ?_
      go_wp2_with fail
      go_ret
      exact H.out
    | false =>
      have H : Hid (ArrP B no KB w0 now SS' m (.returned (.slice an nl nc)) w1) := by
        show ArrP _ _ _ _ _ _ _ _ _
        rw [HSS.out, HLt.out, haw, if_neg (by simp)]
        exact ⟨_, FF, NN, rfl, HNow.out.later HB1.out, (HKa0.out.later HB1.out).up, HKo.out.trans (KOnly.of_below HB1.out)⟩
      clear hb1
      go_wp2_with fail
      refine HK.out _ _ ?_
      go_wp2_with fail
      go_ret
      exact H.out
end Go.Proofs.Ybulkdkqw.lawS5586AWhole
