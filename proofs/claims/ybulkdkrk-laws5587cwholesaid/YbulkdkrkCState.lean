import Derived.Test.YbulkdkrkCList
import Derived.Deep.RegionWith
import Derived.Test.YbulkdkrkARegion
namespace Go.Proofs.Ybulkdkrk.lawS5587CWhole
open Go.ChangeShapes Go.WideShapes Go.ChangeAt Go.RowKit Go.Proofs.Ybulkdkrk.lawS5587AWhole

/-- A value put into a slot. -/
def setU (u : Nat → Value) (s : Nat) (v : Value) (t : Nat) : Value := if t = s then v else u t

set_option maxRecDepth 100000 in
/-- The frame of restate inside its drawing region. -/
def frR (R x Tb : Nat) (aP : Option Addr) (mP cP : Nat) (v2 v3 v6 v7 v8 v9 v10 v11 v12 v13 v14 v15 v16 v17 v18 v19 v20 v21 v22 v23 v57 v58 v59 v60 v61 v62 v63 v64 v65 v66 v67 v68 v69 v70 v71 v72 v73 v74 v75 v76 v77 v78 v79 v80 v81 v82 v83 v84 : Value) (u : Nat → Value) : Act := ⟨#[.pointer (some ⟨R, 0, none⟩), .int .i64 x, v2, v3, .pointer (some ⟨Tb, x * 12, none⟩), .slice aP mP cP, v6, v7, v8, v9, v10, v11, v12, v13, v14, v15, v16, v17, v18, v19, v20, v21, v22, v23, u 24, u 25, u 26, u 27, u 28, u 29, u 30, u 31, u 32, u 33, u 34, u 35, u 36, u 37, u 38, u 39, u 40, u 41, u 42, u 43, u 44, u 45, u 46, u 47, u 48, u 49, u 50, u 51, u 52, u 53, u 54, u 55, u 56, v57, v58, v59, v60, v61, v62, v63, v64, v65, v66, v67, v68, v69, v70, v71, v72, v73, v74, v75, v76, v77, v78, v79, v80, v81, v82, v83, v84], []⟩

/-- What the operations of the region hand on. -/
def exR (R Pb Tb Sb n x : Nat) (X : Int) (cp : Nat) (two : Bool) (pc : Nat) (vS : Value) (aP : Option Addr) (mP cP : Nat) : Nat → Value
  | 0 => .pointer (some ⟨R, 0, none⟩)
  | 1 => .pointer (some ⟨R, 0, none⟩)
  | 2 => .pointer (some ⟨R, 8, none⟩)
  | 3 => .slice (some ⟨Sb, 0, none⟩) n n
  | 4 => .int .i64 x
  | 5 => .pointer (some ⟨R, 0, none⟩)
  | 6 => .pointer (some ⟨R, 0, none⟩)
  | 7 => .pointer (some ⟨R, 0, none⟩)
  | 8 => .int .i64 16
  | 9 => .pointer (some ⟨R, 0, none⟩)
  | 10 => .pointer (some ⟨R, 0, none⟩)
  | 11 => .pointer (some ⟨R, 13, none⟩)
  | 12 => .bool two
  | 13 => .pointer (some ⟨R, 0, none⟩)
  | 14 => .pointer (some ⟨R, 0, none⟩)
  | 15 => .pointer (some ⟨R, 2, none⟩)
  | 16 => .slice (some ⟨Pb, 0, none⟩) n n
  | 17 => .int .i64 x
  | 18 => .pointer (some ⟨Pb, x * 2, none⟩)
  | 19 => .agg #[.int .u64 X, .float .f64 cp]
  | 20 => .pointer (some ⟨Tb, x * 12, none⟩)
  | 21 => .pointer (some ⟨Tb, x * 12, none⟩)
  | 22 => .pointer (some ⟨Tb, x * 12, none⟩)
  | 23 => .pointer (some ⟨Tb, x * 12 + 1, none⟩)
  | 24 => .pointer (some ⟨pc, 0, none⟩)
  | 25 => .pointer (some ⟨Tb, x * 12, none⟩)
  | 26 => .pointer (some ⟨Tb, x * 12, none⟩)
  | 27 => .pointer (some ⟨Tb, x * 12 + 3, none⟩)
  | 28 => vS
  | 30 => .slice aP mP cP
  | 32 => .pointer (some ⟨Sb, x * 9, none⟩)
  | _ => undef

theorem Hs.chgT {w w' : World} {B b n : Nat} {t : TypeId} {f : Nat → Value} {v : Value} {L : List H} (h : Hs w B v L) (hr : w.rowIs b t n f) (ht : t ≠ 64) (hc : Chg [b] w w') : Hs w' B v L := by
  rcases h with h | ⟨g, cap, hv, hB, hp, hm⟩
  · exact .inl h
  · refine .inr ⟨g, cap, hv, hB, hp.of_block (hc.block g hp.lt (fun hx => ?_)), hm⟩
    simp only [List.mem_singleton] at hx
    subst hx
    obtain ⟨_, ⟨c1, e1, _⟩, _⟩ := hp
    obtain ⟨c2, e2, _⟩ := hr
    rw [e1] at e2
    injection e2 with e2
    injection e2 with _ e2
    exact ht e2.symm

/-- What holds at every moment of the region. -/
structure Gd (w0 : World) (R Pb Tb Sb n x : Nat) (X : Int) (cp : Nat) (two : Bool) (pc : Nat) (vS : Value) (aP : Option Addr) (mP cP : Nat) (d : Nat → Bool) (u : Nat → Value) (w : World) : Prop where
  chg : Chg [Sb] w0 w
  st : ∃ f, w.rowIs Sb 125 (n * 9) f
  val : ∀ i, i < 33 → i ≠ 29 → i ≠ 31 → d i = true → u (24 + i) = exR R Pb Tb Sb n x X cp two pc vS aP mP cP i
  s53 : d 29 = true → ∃ ao m c, u 53 = .slice ao m c
  s55 : d 31 = true → ∃ ao m c, u 55 = stateVal two (.int .u64 X) (.float .f64 cp) pc (.slice ao m c) (.slice aP mP cP)
section
variable {w0 w w' : World} {R Pb Tb Sb n x : Nat} {X : Int} {cp : Nat} {two : Bool} {pc : Nat} {vS : Value} {aP : Option Addr} {mP cP : Nat} {d : Nat → Bool} {u : Nat → Value}
theorem Gd.put (h : Gd w0 R Pb Tb Sb n x X cp two pc vS aP mP cP d u w) (i : Nat) (hi : i < 33) (h1 : i ≠ 29) (h2 : i ≠ 31) {v : Value} (hv : v = exR R Pb Tb Sb n x X cp two pc vS aP mP cP i) : Gd w0 R Pb Tb Sb n x X cp two pc vS aP mP cP (fun j => decide (j = i) || d j) (setU u (24 + i) v) w where
  chg := h.chg
  st := h.st
  val := fun j hj k1 k2 hd => by
    unfold setU
    by_cases e : j = i
    · subst e; rw [if_pos rfl]; exact hv
    · rw [if_neg (by omega)]
      exact h.val j hj k1 k2 (by simpa [e] using hd)
  s53 := fun hd => by
    have : ¬ 29 = i := fun e => h1 e.symm
    obtain ⟨ao, m, c, e⟩ := h.s53 (by simpa [this] using hd)
    exact ⟨ao, m, c, by unfold setU; rw [if_neg (by omega)]; exact e⟩
  s55 := fun hd => by
    have : ¬ 31 = i := fun e => h2 e.symm
    obtain ⟨ao, m, c, e⟩ := h.s55 (by simpa [this] using hd)
    exact ⟨ao, m, c, by unfold setU; rw [if_neg (by omega)]; exact e⟩
theorem Gd.grow (h : Gd w0 R Pb Tb Sb n x X cp two pc vS aP mP cP d u w) (hb : Below w.heap.size w w') : Gd w0 R Pb Tb Sb n x X cp two pc vS aP mP cP d u w' where
  chg := h.chg.trans (Chg.of_below hb)
  st := by obtain ⟨f, hf⟩ := h.st; exact ⟨f, hf.of_block (hb.block _ hf.lt)⟩
  val := h.val
  s53 := h.s53
  s55 := h.s55
theorem Gd.put29 (h : Gd w0 R Pb Tb Sb n x X cp two pc vS aP mP cP d u w) (hb : Below w.heap.size w w') {ao : Option Addr} {m c : Nat} : Gd w0 R Pb Tb Sb n x X cp two pc vS aP mP cP (fun j => decide (j = 29) || d j) (setU u 53 (.slice ao m c)) w' where
  chg := h.chg.trans (Chg.of_below hb)
  st := by obtain ⟨f, hf⟩ := h.st; exact ⟨f, hf.of_block (hb.block _ hf.lt)⟩
  val := fun j hj k1 k2 hd => by
    unfold setU
    rw [if_neg (by omega)]
    exact h.val j hj k1 k2 (by simpa [k1] using hd)
  s53 := fun _ => ⟨ao, m, c, by simp [setU]⟩
  s55 := fun hd => by
    obtain ⟨ao, m, c, e⟩ := h.s55 (by simpa using hd)
    exact ⟨ao, m, c, by unfold setU; rw [if_neg (by omega)]; exact e⟩
theorem Gd.put31 (h : Gd w0 R Pb Tb Sb n x X cp two pc vS aP mP cP d u w) (hb : Below w.heap.size w w') {ao : Option Addr} {m c : Nat} : Gd w0 R Pb Tb Sb n x X cp two pc vS aP mP cP (fun j => decide (j = 31) || d j) (setU u 55 (stateVal two (.int .u64 X) (.float .f64 cp) pc (.slice ao m c) (.slice aP mP cP))) w' where
  chg := h.chg.trans (Chg.of_below hb)
  st := by obtain ⟨f, hf⟩ := h.st; exact ⟨f, hf.of_block (hb.block _ hf.lt)⟩
  val := fun j hj k1 k2 hd => by
    unfold setU
    rw [if_neg (by omega)]
    exact h.val j hj k1 k2 (by simpa [k2] using hd)
  s53 := fun hd => by
    obtain ⟨ao, m, c, e⟩ := h.s53 (by simpa using hd)
    exact ⟨ao, m, c, by unfold setU; rw [if_neg (by omega)]; exact e⟩
  s55 := fun _ => ⟨ao, m, c, by simp [setU]⟩
theorem Gd.put33 (h : Gd w0 R Pb Tb Sb n x X cp two pc vS aP mP cP d u w) (hc : Chg [Sb] w w') (hs : ∃ f, w'.rowIs Sb 125 (n * 9) f) : Gd w0 R Pb Tb Sb n x X cp two pc vS aP mP cP (fun j => decide (j = 33) || d j) u w' where
  chg := h.chg.trans hc
  st := hs
  val := fun j hj k1 k2 hd => h.val j hj k1 k2 (by have : ¬ j = 33 := by omega
                                                   simpa [this] using hd)
  s53 := fun hd => h.s53 (by simpa using hd)
  s55 := fun hd => h.s55 (by simpa using hd)
end

/-- WHAT restate READS OF THE RING. -/
structure Rst (w : World) (R Pb Sb n x : Nat) (X : Int) (cp : Nat) (two : Bool) : Prop where
  r0 : w.cell? ⟨R, 0, none⟩ = some (.int .i64 16)
  r2 : w.cell? ⟨R, 2, none⟩ = some (.slice (some ⟨Pb, 0, none⟩) n n)
  r8 : w.cell? ⟨R, 8, none⟩ = some (.slice (some ⟨Sb, 0, none⟩) n n)
  r13 : w.cell? ⟨R, 13, none⟩ = some (.bool two)
  p0 : w.cell? ⟨Pb, x * 2, none⟩ = some (.int .u64 X)
  p1 : w.cell? ⟨Pb, x * 2 + 1, none⟩ = some (.float .f64 cp)
  st : ∃ f, w.rowIs Sb 125 (n * 9) f

theorem Rst.later {w w' : World} {R Pb Sb n x : Nat} {X : Int} {cp : Nat} {two : Bool} (h : Rst w R Pb Sb n x X cp two) (hb : Below w.heap.size w w') : Rst w' R Pb Sb n x X cp two := by
  obtain ⟨f, hf⟩ := h.st
  exact ⟨(hb.cell (World.block_lt_of_cell? w _ h.r0)).trans h.r0, (hb.cell (World.block_lt_of_cell? w _ h.r2)).trans h.r2, (hb.cell (World.block_lt_of_cell? w _ h.r8)).trans h.r8, (hb.cell (World.block_lt_of_cell? w _ h.r13)).trans h.r13, (hb.cell (World.block_lt_of_cell? w _ h.p0)).trans h.p0, (hb.cell (World.block_lt_of_cell? w _ h.p1)).trans h.p1, f, hf.of_block (hb.block _ hf.lt)⟩

def z127 : Array Value := (List.replicate 128 (Value.pointer none)).toArray
theorem zero127 (w : World) : Sem.run Yba.prog (zeroValue 127) w = .ok (.agg z127) w := by kernel_rfl

/-- The code behind the first k statements. -/
def tailN : Nat → Code → Code
  | 0, c => c
  | k + 1, .seq _ b => tailN k b
  | _ + 1, c => c

set_option linter.unusedVariables false in
set_option maxRecDepth 1000000 in
set_option maxHeartbeats 8000000 in
/-- restate, from the new state on. -/
theorem restate_t4 {v2 v3 v6 v7 v8 v9 v10 v11 v12 v13 v14 v15 v16 v17 v18 v19 v20 v21 v22 v23 v24 v25 v26 v27 v28 v29 v30 v31 v32 v33 v34 v35 v36 v37 v38 v39 v40 v41 v42 v43 v44 v45 v46 v47 v48 v49 v50 v51 v52 v53 v54 v55 v56 v57 v58 v59 v60 v61 v62 v63 v64 v65 v66 v67 v68 v69 v70 v71 v72 v73 v74 v75 v76 v77 v78 v79 v80 v81 v82 v83 v84 : Value} (z : Array Value) (hz : ∀ w, Sem.run Yba.prog (zeroValue 127) w = .ok (.agg z) w) (pred : H) (S P : List H) (B R Pb Tb Sb n x : Nat) (X : Int) (cp : Nat) (two st : Bool) (vS vP : Value) (aP : Option Addr) (mP cP : Nat) (w0 w : World)
    (hb : Below w0.heap.size w0 w) (hT : Tab w R Tb n x pred vS vP st) (hR : Rst w R Pb Sb n x X cp two) (hS : Hs w B vS S) (hnS : S.length ≤ 65536) (n1 : Sb ≠ R) (n2 : Sb ≠ Tb) (n3 : Sb ≠ Pb) (code : Code) (hc : Yba.f25.body.map (tailN 3) = some code) :
    Code.wp Yba.prog code (bodyPost Yba.prog Yba.f25 (fun e w' => e = .returned (.tuple #[]) ∧ Chg [Sb] w0 w')) ⟨#[.pointer (some ⟨R, 0, none⟩), .int .i64 x, v2, v3, .pointer (some ⟨Tb, x * 12, none⟩), .slice aP mP cP, v6, v7, v8, v9, v10, v11, v12, v13, v14, v15, v16, v17, v18, v19, v20, v21, v22, v23, v24, v25, v26, v27, v28, v29, v30, v31, v32, v33, v34, v35, v36, v37, v38, v39, v40, v41, v42, v43, v44, v45, v46, v47, v48, v49, v50, v51, v52, v53, v54, v55, v56, v57, v58, v59, v60, v61, v62, v63, v64, v65, v66, v67, v68, v69, v70, v71, v72, v73, v74, v75, v76, v77, v78, v79, v80, v81, v82, v83, v84], []⟩ w := by
  cases hc
  conv => arg 2; whnf
  have HB0 : Hid (Below w0.heap.size w0 w) := hb
  have HT : Hid (Tab w R Tb n x pred vS vP st) := hT
  have HR : Hid (Rst w R Pb Sb n x X cp two) := hR
  have HHS : Hid (Hs w B vS S) := hS
  obtain ⟨hx, r11, t0, t1, t2, t3, t4, t5, t8⟩ := hT
  obtain ⟨r0, r2, r8, r13, p0, p1, f, hst⟩ := hR
  have HST : Hid (w.rowIs Sb 125 (n * 9) f) := hst
  have lR : R < w.heap.size := World.block_lt_of_cell? w _ r11
  have lT : Tb < w.heap.size := World.block_lt_of_cell? w _ t0
  have lP : Pb < w.heap.size := World.block_lt_of_cell? w _ p0
  have lS : Sb < w.heap.size := hst.lt
  clear hS hb hst t0 t2 t8 t4
  have i1 : (x : Int) < (n : Int) := by omega
  refine wp_seq_k ?_
  intro K hK
  have HK := show Hid _ from hK
  clear hK
  refine wp_region_inv cmixed (back_of (by kernel_rfl)) (fun d a w' => ∃ u, a = frR R x Tb aP mP cP v2 v3 v6 v7 v8 v9 v10 v11 v12 v13 v14 v15 v16 v17 v18 v19 v20 v21 v22 v23 v57 v58 v59 v60 v61 v62 v63 v64 v65 v66 v67 v68 v69 v70 v71 v72 v73 v74 v75 v76 v77 v78 v79 v80 v81 v82 v83 v84 u ∧ Gd w R Pb Tb Sb n x X cp two pred.c vS aP mP cP d u w') ?_ ?_ ?_
  · exact ⟨fun s => (#[v24, v25, v26, v27, v28, v29, v30, v31, v32, v33, v34, v35, v36, v37, v38, v39, v40, v41, v42, v43, v44, v45, v46, v47, v48, v49, v50, v51, v52, v53, v54, v55, v56] : Array Value).getD (s - 24) undef, rfl, (Chg.refl _ _).drew, ⟨f, HST.out.of_block rfl⟩, by simp, by simp, by simp⟩
  · intro d a wx i o hI ho hd hdep
    obtain ⟨u, rfl, hG⟩ := hI
    have m0 := (hG.chg.cell (p := ⟨R, 0, none⟩) lR (by simpa using fun e => n1 e.symm)).trans r0
    have m2 := (hG.chg.cell (p := ⟨R, 2, none⟩) lR (by simpa using fun e => n1 e.symm)).trans r2
    have m8 := (hG.chg.cell (p := ⟨R, 8, none⟩) lR (by simpa using fun e => n1 e.symm)).trans r8
    have m13 := (hG.chg.cell (p := ⟨R, 13, none⟩) lR (by simpa using fun e => n1 e.symm)).trans r13
    have q0 := (hG.chg.cell (p := ⟨Pb, x * 2, none⟩) lP (by simpa using fun e => n3 e.symm)).trans p0
    have q1 := (hG.chg.cell (p := ⟨Pb, x * 2 + 1, none⟩) lP (by simpa using fun e => n3 e.symm)).trans p1
    have s1 := (hG.chg.cell (p := ⟨Tb, x * 12 + 1, none⟩) lT (by simpa using fun e => n2 e.symm)).trans t1
    have s3 := (hG.chg.cell (p := ⟨Tb, x * 12 + 3, none⟩) lT (by simpa using fun e => n2 e.symm)).trans t3
    match i with
    | 0 =>
      have ho' := ho
      simp at ho; subst ho
      simp [Region.binds] at hdep
      refine wpOp_plain ho' rfl ?_
      clear ho'
      unfold Oper.wp
      simp only [execOp, frR]
      go_simp
      exact ⟨_, by simp [setU, exR], hG.put 0 (by omega) (by omega) (by omega) rfl⟩
    | 1 =>
      have ho' := ho
      simp at ho; subst ho
      simp [Region.binds] at hdep
      refine wpOp_plain ho' rfl ?_
      clear ho'
      have e0 : u 24 = .pointer (some ⟨R, 0, none⟩) := hG.val 0 (by omega) (by omega) (by omega) (by simp [hdep])
      unfold Oper.wp
      simp only [execOp, frR]
      go_simp
      exact ⟨_, by simp [setU, exR, e0], hG.put 1 (by omega) (by omega) (by omega) rfl⟩
    | 2 =>
      have ho' := ho
      simp at ho; subst ho
      simp [Region.binds] at hdep
      refine wpOp_plain ho' rfl ?_
      clear ho'
      have e1 : u 25 = .pointer (some ⟨R, 0, none⟩) := hG.val 1 (by omega) (by omega) (by omega) (by simp [hdep])
      unfold Oper.wp
      simp only [execOp, frR]
      go_simp
      exact ⟨_, by simp [setU, exR, e1], hG.put 2 (by omega) (by omega) (by omega) rfl⟩
    | 3 =>
      have ho' := ho
      simp at ho; subst ho
      simp [Region.binds] at hdep
      refine wpOp_plain ho' rfl ?_
      clear ho'
      have e2 : u 26 = .pointer (some ⟨R, 8, none⟩) := hG.val 2 (by omega) (by omega) (by omega) (by simp [hdep])
      unfold Oper.wp
      simp only [execOp, frR]
      go_simp
      exact ⟨_, by simp [setU, exR, e2], hG.put 3 (by omega) (by omega) (by omega) rfl⟩
    | 4 =>
      have ho' := ho
      simp at ho; subst ho
      simp [Region.binds] at hdep
      refine wpOp_plain ho' rfl ?_
      clear ho'
      unfold Oper.wp
      simp only [execOp, frR]
      go_simp
      exact ⟨_, by simp [setU, exR], hG.put 4 (by omega) (by omega) (by omega) rfl⟩
    | 5 =>
      have ho' := ho
      simp at ho; subst ho
      simp [Region.binds] at hdep
      refine wpOp_plain ho' rfl ?_
      clear ho'
      unfold Oper.wp
      simp only [execOp, frR]
      go_simp
      exact ⟨_, by simp [setU, exR], hG.put 5 (by omega) (by omega) (by omega) rfl⟩
    | 6 =>
      have ho' := ho
      simp at ho; subst ho
      simp [Region.binds] at hdep
      refine wpOp_plain ho' rfl ?_
      clear ho'
      have e5 : u 29 = .pointer (some ⟨R, 0, none⟩) := hG.val 5 (by omega) (by omega) (by omega) (by simp [hdep])
      unfold Oper.wp
      simp only [execOp, frR]
      go_simp
      exact ⟨_, by simp [setU, exR, e5], hG.put 6 (by omega) (by omega) (by omega) rfl⟩
    | 7 =>
      have ho' := ho
      simp at ho; subst ho
      simp [Region.binds] at hdep
      refine wpOp_plain ho' rfl ?_
      clear ho'
      have e6 : u 30 = .pointer (some ⟨R, 0, none⟩) := hG.val 6 (by omega) (by omega) (by omega) (by simp [hdep])
      unfold Oper.wp
      simp only [execOp, frR]
      go_simp
      exact ⟨_, by simp [setU, exR, e6], hG.put 7 (by omega) (by omega) (by omega) rfl⟩
    | 8 =>
      have ho' := ho
      simp at ho; subst ho
      simp [Region.binds] at hdep
      refine wpOp_plain ho' rfl ?_
      clear ho'
      have e7 : u 31 = .pointer (some ⟨R, 0, none⟩) := hG.val 7 (by omega) (by omega) (by omega) (by simp [hdep])
      unfold Oper.wp
      simp only [execOp, frR]
      go_simp
      exact ⟨_, by simp [setU, exR, e7], hG.put 8 (by omega) (by omega) (by omega) rfl⟩
    | 9 =>
      have ho' := ho
      simp at ho; subst ho
      simp [Region.binds] at hdep
      refine wpOp_plain ho' rfl ?_
      clear ho'
      unfold Oper.wp
      simp only [execOp, frR]
      go_simp
      exact ⟨_, by simp [setU, exR], hG.put 9 (by omega) (by omega) (by omega) rfl⟩
    | 10 =>
      have ho' := ho
      simp at ho; subst ho
      simp [Region.binds] at hdep
      refine wpOp_plain ho' rfl ?_
      clear ho'
      have e9 : u 33 = .pointer (some ⟨R, 0, none⟩) := hG.val 9 (by omega) (by omega) (by omega) (by simp [hdep])
      unfold Oper.wp
      simp only [execOp, frR]
      go_simp
      exact ⟨_, by simp [setU, exR, e9], hG.put 10 (by omega) (by omega) (by omega) rfl⟩
    | 11 =>
      have ho' := ho
      simp at ho; subst ho
      simp [Region.binds] at hdep
      refine wpOp_plain ho' rfl ?_
      clear ho'
      have e10 : u 34 = .pointer (some ⟨R, 0, none⟩) := hG.val 10 (by omega) (by omega) (by omega) (by simp [hdep])
      unfold Oper.wp
      simp only [execOp, frR]
      go_simp
      exact ⟨_, by simp [setU, exR, e10], hG.put 11 (by omega) (by omega) (by omega) rfl⟩
    | 12 =>
      have ho' := ho
      simp at ho; subst ho
      simp [Region.binds] at hdep
      refine wpOp_plain ho' rfl ?_
      clear ho'
      have e11 : u 35 = .pointer (some ⟨R, 13, none⟩) := hG.val 11 (by omega) (by omega) (by omega) (by simp [hdep])
      unfold Oper.wp
      simp only [execOp, frR]
      go_simp
      exact ⟨_, by simp [setU, exR, e11], hG.put 12 (by omega) (by omega) (by omega) rfl⟩
    | 13 =>
      have ho' := ho
      simp at ho; subst ho
      simp [Region.binds] at hdep
      refine wpOp_plain ho' rfl ?_
      clear ho'
      unfold Oper.wp
      simp only [execOp, frR]
      go_simp
      exact ⟨_, by simp [setU, exR], hG.put 13 (by omega) (by omega) (by omega) rfl⟩
    | 14 =>
      have ho' := ho
      simp at ho; subst ho
      simp [Region.binds] at hdep
      refine wpOp_plain ho' rfl ?_
      clear ho'
      have e13 : u 37 = .pointer (some ⟨R, 0, none⟩) := hG.val 13 (by omega) (by omega) (by omega) (by simp [hdep])
      unfold Oper.wp
      simp only [execOp, frR]
      go_simp
      exact ⟨_, by simp [setU, exR, e13], hG.put 14 (by omega) (by omega) (by omega) rfl⟩
    | 15 =>
      have ho' := ho
      simp at ho; subst ho
      simp [Region.binds] at hdep
      refine wpOp_plain ho' rfl ?_
      clear ho'
      have e14 : u 38 = .pointer (some ⟨R, 0, none⟩) := hG.val 14 (by omega) (by omega) (by omega) (by simp [hdep])
      unfold Oper.wp
      simp only [execOp, frR]
      go_simp
      exact ⟨_, by simp [setU, exR, e14], hG.put 15 (by omega) (by omega) (by omega) rfl⟩
    | 16 =>
      have ho' := ho
      simp at ho; subst ho
      simp [Region.binds] at hdep
      refine wpOp_plain ho' rfl ?_
      clear ho'
      have e15 : u 39 = .pointer (some ⟨R, 2, none⟩) := hG.val 15 (by omega) (by omega) (by omega) (by simp [hdep])
      unfold Oper.wp
      simp only [execOp, frR]
      go_simp
      exact ⟨_, by simp [setU, exR, e15], hG.put 16 (by omega) (by omega) (by omega) rfl⟩
    | 17 =>
      have ho' := ho
      simp at ho; subst ho
      simp [Region.binds] at hdep
      refine wpOp_plain ho' rfl ?_
      clear ho'
      unfold Oper.wp
      simp only [execOp, frR]
      go_simp
      exact ⟨_, by simp [setU, exR], hG.put 17 (by omega) (by omega) (by omega) rfl⟩
    | 18 =>
      have ho' := ho
      simp at ho; subst ho
      simp [Region.binds] at hdep
      refine wpOp_plain ho' rfl ?_
      clear ho'
      have e16 : u 40 = .slice (some ⟨Pb, 0, none⟩) n n := hG.val 16 (by omega) (by omega) (by omega) (by simp [hdep])
      have e17 : u 41 = .int .i64 x := hG.val 17 (by omega) (by omega) (by omega) (by simp [hdep])
      unfold Oper.wp
      simp only [execOp, frR]
      go_simp
      exact ⟨_, by simp [setU, exR, e16, e17], hG.put 18 (by omega) (by omega) (by omega) rfl⟩
    | 19 =>
      have ho' := ho
      simp at ho; subst ho
      simp [Region.binds] at hdep
      refine wpOp_plain ho' rfl ?_
      clear ho'
      have e18 : u 42 = .pointer (some ⟨Pb, x * 2, none⟩) := hG.val 18 (by omega) (by omega) (by omega) (by simp [hdep])
      unfold Oper.wp
      simp only [execOp, frR]
      go_simp
      exact ⟨_, by simp [setU, exR, e18], hG.put 19 (by omega) (by omega) (by omega) rfl⟩
    | 20 =>
      have ho' := ho
      simp at ho; subst ho
      simp [Region.binds] at hdep
      refine wpOp_plain ho' rfl ?_
      clear ho'
      unfold Oper.wp
      simp only [execOp, frR]
      go_simp
      exact ⟨_, by simp [setU, exR], hG.put 20 (by omega) (by omega) (by omega) rfl⟩
    | 21 =>
      have ho' := ho
      simp at ho; subst ho
      simp [Region.binds] at hdep
      refine wpOp_plain ho' rfl ?_
      clear ho'
      have e20 : u 44 = .pointer (some ⟨Tb, x * 12, none⟩) := hG.val 20 (by omega) (by omega) (by omega) (by simp [hdep])
      unfold Oper.wp
      simp only [execOp, frR]
      go_simp
      exact ⟨_, by simp [setU, exR, e20], hG.put 21 (by omega) (by omega) (by omega) rfl⟩
    | 22 =>
      have ho' := ho
      simp at ho; subst ho
      simp [Region.binds] at hdep
      refine wpOp_plain ho' rfl ?_
      clear ho'
      have e21 : u 45 = .pointer (some ⟨Tb, x * 12, none⟩) := hG.val 21 (by omega) (by omega) (by omega) (by simp [hdep])
      unfold Oper.wp
      simp only [execOp, frR]
      go_simp
      exact ⟨_, by simp [setU, exR, e21], hG.put 22 (by omega) (by omega) (by omega) rfl⟩
    | 23 =>
      have ho' := ho
      simp at ho; subst ho
      simp [Region.binds] at hdep
      refine wpOp_plain ho' rfl ?_
      clear ho'
      have e22 : u 46 = .pointer (some ⟨Tb, x * 12, none⟩) := hG.val 22 (by omega) (by omega) (by omega) (by simp [hdep])
      unfold Oper.wp
      simp only [execOp, frR]
      go_simp
      exact ⟨_, by simp [setU, exR, e22], hG.put 23 (by omega) (by omega) (by omega) rfl⟩
    | 24 =>
      have ho' := ho
      simp at ho; subst ho
      simp [Region.binds] at hdep
      refine wpOp_plain ho' rfl ?_
      clear ho'
      have e23 : u 47 = .pointer (some ⟨Tb, x * 12 + 1, none⟩) := hG.val 23 (by omega) (by omega) (by omega) (by simp [hdep])
      unfold Oper.wp
      simp only [execOp, frR]
      go_simp
      exact ⟨_, by simp [setU, exR, e23], hG.put 24 (by omega) (by omega) (by omega) rfl⟩
    | 25 =>
      have ho' := ho
      simp at ho; subst ho
      simp [Region.binds] at hdep
      refine wpOp_plain ho' rfl ?_
      clear ho'
      unfold Oper.wp
      simp only [execOp, frR]
      go_simp
      exact ⟨_, by simp [setU, exR], hG.put 25 (by omega) (by omega) (by omega) rfl⟩
    | 26 =>
      have ho' := ho
      simp at ho; subst ho
      simp [Region.binds] at hdep
      refine wpOp_plain ho' rfl ?_
      clear ho'
      have e25 : u 49 = .pointer (some ⟨Tb, x * 12, none⟩) := hG.val 25 (by omega) (by omega) (by omega) (by simp [hdep])
      unfold Oper.wp
      simp only [execOp, frR]
      go_simp
      exact ⟨_, by simp [setU, exR, e25], hG.put 26 (by omega) (by omega) (by omega) rfl⟩
    | 27 =>
      have ho' := ho
      simp at ho; subst ho
      simp [Region.binds] at hdep
      refine wpOp_plain ho' rfl ?_
      clear ho'
      have e26 : u 50 = .pointer (some ⟨Tb, x * 12, none⟩) := hG.val 26 (by omega) (by omega) (by omega) (by simp [hdep])
      unfold Oper.wp
      simp only [execOp, frR]
      go_simp
      exact ⟨_, by simp [setU, exR, e26], hG.put 27 (by omega) (by omega) (by omega) rfl⟩
    | 28 =>
      have ho' := ho
      simp at ho; subst ho
      simp [Region.binds] at hdep
      refine wpOp_plain ho' rfl ?_
      clear ho'
      have e27 : u 51 = .pointer (some ⟨Tb, x * 12 + 3, none⟩) := hG.val 27 (by omega) (by omega) (by omega) (by simp [hdep])
      unfold Oper.wp
      simp only [execOp, frR]
      go_simp
      exact ⟨_, by simp [setU, exR, e27], hG.put 28 (by omega) (by omega) (by omega) rfl⟩
    | 29 =>
      have ho' := ho
      simp at ho; subst ho
      simp [Region.binds] at hdep
      refine wpOp_plain ho' rfl ?_
      clear ho'
      have e28 : u 52 = vS := hG.val 28 (by omega) (by omega) (by omega) (by simp [hdep])
      unfold Oper.wp
      simp only [execOp, frR]
      go_simp
      refine (contacts_any S B vS wx (HHS.out.chgT HST.out (by decide) hG.chg) hnS).mono ?_
      rintro e w' ⟨⟨ao, m, c, rfl⟩, hb⟩
      exact ⟨_, by simp [setU, e28], hG.put29 (ao := ao) (m := m) (c := c) hb⟩
    | 30 =>
      have ho' := ho
      simp at ho; subst ho
      simp [Region.binds] at hdep
      refine wpOp_plain ho' rfl ?_
      clear ho'
      unfold Oper.wp
      simp only [execOp, frR]
      go_simp
      exact ⟨_, by simp [setU, exR], hG.put 30 (by omega) (by omega) (by omega) rfl⟩
    | 31 =>
      have ho' := ho
      simp at ho; subst ho
      simp [Region.binds] at hdep
      refine wpOp_plain ho' rfl ?_
      clear ho'
      have e8 : u 32 = .int .i64 16 := hG.val 8 (by omega) (by omega) (by omega) (by simp [hdep])
      have e12 : u 36 = .bool two := hG.val 12 (by omega) (by omega) (by omega) (by simp [hdep])
      have e19 : u 43 = .agg #[.int .u64 X, .float .f64 cp] := hG.val 19 (by omega) (by omega) (by omega) (by simp [hdep])
      have e24 : u 48 = .pointer (some ⟨pred.c, 0, none⟩) := hG.val 24 (by omega) (by omega) (by omega) (by simp [hdep])
      have e30 : u 54 = .slice aP mP cP := hG.val 30 (by omega) (by omega) (by omega) (by simp [hdep])
      obtain ⟨ao, m, c, e29⟩ := hG.s53 (by simp [hdep])
      unfold Oper.wp
      simp only [execOp, frR]
      go_simp
      refine (newState_any two X cp pred.c ao aP m c mP cP wx).mono ?_
      rintro e w' ⟨rfl, hb⟩
      exact ⟨_, by simp [setU, e8, e12, e19, e24, e30, e29], hG.put31 (ao := ao) (m := m) (c := c) hb⟩
    | 32 =>
      have ho' := ho
      simp at ho; subst ho
      simp [Region.binds] at hdep
      refine wpOp_plain ho' rfl ?_
      clear ho'
      have e3 : u 27 = .slice (some ⟨Sb, 0, none⟩) n n := hG.val 3 (by omega) (by omega) (by omega) (by simp [hdep])
      have e4 : u 28 = .int .i64 x := hG.val 4 (by omega) (by omega) (by omega) (by simp [hdep])
      unfold Oper.wp
      simp only [execOp, frR]
      go_simp
      exact ⟨_, by simp [setU, exR, e3, e4], hG.put 32 (by omega) (by omega) (by omega) rfl⟩
    | 33 =>
      have ho' := ho
      simp at ho; subst ho
      simp [Region.binds] at hdep
      refine wpOp_plain ho' rfl ?_
      clear ho'
      have e32 : u 56 = .pointer (some ⟨Sb, x * 9, none⟩) := hG.val 32 (by omega) (by omega) (by omega) (by simp [hdep])
      obtain ⟨ao, m, c, e31⟩ := hG.s55 (by simp [hdep])
      simp only [stateVal] at e31
      obtain ⟨f, hrow⟩ := hG.st
      have q0 := hrow.cell (i := x * 9) (by omega)
      have q1 := hrow.cell (i := x * 9 + 1) (by omega)
      have q2 := hrow.cell (i := x * 9 + 2) (by omega)
      have q3 := hrow.cell (i := x * 9 + 3) (by omega)
      have q4 := hrow.cell (i := x * 9 + 4) (by omega)
      have q5 := hrow.cell (i := x * 9 + 5) (by omega)
      have q6 := hrow.cell (i := x * 9 + 6) (by omega)
      have q7 := hrow.cell (i := x * 9 + 7) (by omega)
      have q8 := hrow.cell (i := x * 9 + 8) (by omega)
      have hfz := fun i => hrow.frozen i
      unfold Oper.wp
      simp only [execOp, frR]
      go_simp
      exact ⟨u, by simp [e32, e31], hG.put33 ((((((((((Chg.refl _ _).setCell (by simp) _).setCell (by simp) _).setCell (by simp) _).setCell (by simp) _).setCell (by simp) _).setCell (by simp) _).setCell (by simp) _).setCell (by simp) _).setCell (by simp) _) ⟨_, (((((((((hrow.set _ _).set _ _).set _ _).set _ _).set _ _).set _ _).set _ _).set _ _).set _ _)⟩⟩
    | i + 34 => simp at ho
  · intro d a w' hI hall
    obtain ⟨u, rfl, hG⟩ := hI
    have m8 := (hG.chg.cell (p := ⟨R, 8, none⟩) lR (by simpa using fun e => n1 e.symm)).trans r8
    have s5 := (hG.chg.cell (p := ⟨Tb, x * 12 + 5, none⟩) lT (by simpa using fun e => n2 e.symm)).trans t5
    obtain ⟨f', hrow⟩ := hG.st
    have HC1 : Hid (Chg [Sb] w w') := hG.chg
    have HRw : Hid (w'.rowIs Sb 125 (n * 9) f') := hrow
    have lz := hG.chg.size
    have lR' : R < w'.heap.size := by omega
    have lT' : Tb < w'.heap.size := by omega
    have lS' : Sb < w'.heap.size := by omega
    refine HK.out _ _ ?_
    simp only [frR]
    clear hall hG hrow HK r0 r2 r8 r11 r13 p0 p1 t1 t3 t5
    go_wp2_with fail
    generalize hwz : World.alloc _ _ = wz
    have hbz : Below w'.heap.size w' wz := by subst hwz; exact nb (Below.refl _ _) (Nat.le_refl _) _
    clear hwz
    have m8' := (hbz.cell (p := ⟨R, 8, none⟩) lR').trans m8
    have s5' := (hbz.cell (p := ⟨Tb, x * 12 + 5, none⟩) lT').trans s5
    have HRz : Hid (wz.rowIs Sb 125 (n * 9) f') := HRw.out.of_block (hbz.block _ lS')
    have HCz : Hid (Chg [Sb] w wz) := HC1.out.trans (Chg.of_below hbz)
    clear hbz m8 s5
    go_loopw [62] (fun i wr => i = .int .i64 0 ∧ wr = wz) (fun _ _ => 0)
    case atStart => exact ⟨rfl, rfl⟩
    case round =>
      obtain ⟨rfl, rfl⟩ := hrel
      go_wp2_with fail
      refine region_tail2 12 (by kernel_rfl) ?_
      intro KK hKK
      simp only [List.take_succ_cons, List.take_zero]
      repeat (refine wpStill_want rfl (fun K hK => ?_); go_simp; refine hK _ ?_; clear hK K)
      refine wpStill_nil ?_
      refine hKK _ ?_
      clear hKK KK
      simp only [List.drop_succ_cons, List.drop_zero]
      refine wpList_want rfl (fun K hK => ?_)
      go_simp
      have q7 := HRz.out.cell (i := x * 9 + 7) (by omega)
      have q8 := HRz.out.cell (i := x * 9 + 8) (by omega)
      refine (setFingers_any Sb x _ _ _ _ wr.drew (HRz.out.frozen _) (HRz.out.frozen _) q7 q8).mono ?_
      rintro e w2 ⟨rfl, rfl⟩
      refine hK _ _ ?_
      clear hK K
      go_wp2_with fail
      simp [bodyPost, results, Yba.results25]
      exact (Chg.of_below HB0.out).trans ((HCz.out.drew.setCell (by simp) _).setCell (by simp) _)
end Go.Proofs.Ybulkdkrk.lawS5587CWhole
