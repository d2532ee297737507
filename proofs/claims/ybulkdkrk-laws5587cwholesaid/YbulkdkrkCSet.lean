import Derived.Test.YbulkdkrkCState
import Derived.Test.YbulkdkrkCHeld
namespace Go.Proofs.Ybulkdkrk.lawS5587CWhole
open Go.ChangeShapes Go.WideShapes Go.ChangeAt Go.RowKit Go.Proofs.Ybulkdkrk.lawS5587AWhole

set_option maxRecDepth 1000000 in
set_option maxHeartbeats 4000000 in
/-- restate. -/
theorem restate_any (pred : H) (S P : List H) (B R Pb Tb Sb n x : Nat) (X : Int) (cp : Nat) (two st : Bool) (vS vP : Value) (w : World) (hT : Tab w R Tb n x pred vS vP st) (hR : Rst w R Pb Sb n x X cp two)
    (hS : Hs w B vS S) (hP : Hs w B vP P) (hnS : S.length ≤ 65536) (hnP : P.length ≤ 65536) (n1 : Sb ≠ R) (n2 : Sb ≠ Tb) (n3 : Sb ≠ Pb) :
    Calls Yba.prog 25 #[.pointer (some ⟨R, 0, none⟩), .int .i64 x] w fun e w' => e = .returned (.tuple #[]) ∧ Chg [Sb] w w' := by
  have HT : Hid (Tab w R Tb n x pred vS vP st) := hT
  have HR : Hid (Rst w R Pb Sb n x X cp two) := hR
  have HHS : Hid (Hs w B vS S) := hS
  have HHP : Hid (Hs w B vP P) := hP
  obtain ⟨hx, r11, t0, t1, t2, t3, t4, t5, t8⟩ := hT
  obtain ⟨r0, r2, r8, r13, p0, p1, f, hst⟩ := hR
  clear hS hP hst t0 t1 t2 t3 t5 t8 r0 r2 r8 p0 p1
  go_enter Yba.func25, Yba.ntmps25
  refine wp_seq_k ?_
  intro K hK
  have HK := show Hid _ from hK
  clear hK
  go_wp2_with fail
  refine HK.out _ _ ?_
  clear HK K
  refine wp_seq_k ?_
  intro K hK
  have HK := show Hid _ from hK
  clear hK
  go_wp2_with fail
  refine HK.out _ _ ?_
  clear HK K
  refine wp_seq_k ?_
  intro K hK
  have HK := show Hid _ from hK
  clear hK
  cases two with
  | true =>
    go_wp2_with fail
    refine (contacts_any P B vP w HHP.out hnP).mono ?_
    rintro e w1 ⟨⟨aP, mP, cP, rfl⟩, hb1⟩
    have HB1 : Hid (Below w.heap.size w w1) := hb1
    clear hb1
    go_wp2_with fail
    refine HK.out _ _ ?_
    exact restate_t4 z127 zero127 pred S P B R Pb Tb Sb n x X cp true st vS vP aP mP cP w w1 HB1.out (HT.out.later HB1.out) (HR.out.later HB1.out) (HHS.out.later HB1.out) hnS n1 n2 n3 _ rfl
  | false =>
    go_wp2_with fail
    refine HK.out _ _ ?_
    exact restate_t4 z127 zero127 pred S P B R Pb Tb Sb n x X cp false st vS vP none 0 0 w w (Below.refl _ _) HT.out HR.out HHS.out hnS n1 n2 n3 _ rfl

/-- What node x's table holds, by the row of the tables. -/
structure TabF (f : Nat → Value) (x : Nat) (pred : H) (vS vP : Value) (st : Bool) : Prop where
  t0 : f (x * 12) = .int .i64 pred.node
  t1 : f (x * 12 + 1) = .pointer (some ⟨pred.c, 0, none⟩)
  t2 : f (x * 12 + 2) = .int .i64 pred.links
  t3 : f (x * 12 + 3) = vS
  t4 : f (x * 12 + 4) = vP
  t5 : f (x * 12 + 5) = .slice none 0 0
  t8 : f (x * 12 + 8) = .bool st

theorem Tab.of_row {w : World} {R Tb n x : Nat} {pred : H} {vS vP : Value} {st : Bool} {f : Nat → Value} (hx : x < n) (r11 : w.cell? ⟨R, 11, none⟩ = some (.slice (some ⟨Tb, 0, none⟩) n n)) (hr : w.rowIs Tb 67 (n * 12) f) (h : TabF f x pred vS vP st) : Tab w R Tb n x pred vS vP st :=
  ⟨hx, r11, (hr.cell (by omega)).trans (by rw [h.t0]), (hr.cell (by omega)).trans (by rw [h.t1]), (hr.cell (by omega)).trans (by rw [h.t2]), (hr.cell (by omega)).trans (by rw [h.t3]), (hr.cell (by omega)).trans (by rw [h.t4]), (hr.cell (by omega)).trans (by rw [h.t5]), (hr.cell (by omega)).trans (by rw [h.t8])⟩

/-- The tables' row with node x's successor list set. -/
def setF (f : Nat → Value) (x : Nat) (v : Value) (i : Nat) : Value := if i = x * 12 + 8 then .bool true else if i = x * 12 + 3 then v else f i

theorem setF_tab {f : Nat → Value} {x : Nat} {pred : H} {vS vP : Value} {st : Bool} (h : TabF f x pred vS vP st) (v : Value) : TabF (setF f x v) x pred v vP true := by
  constructor <;> unfold setF
  · rw [if_neg (by omega), if_neg (by omega)]; exact h.t0
  · rw [if_neg (by omega), if_neg (by omega)]; exact h.t1
  · rw [if_neg (by omega), if_neg (by omega)]; exact h.t2
  · rw [if_neg (by omega), if_pos rfl]
  · rw [if_neg (by omega), if_neg (by omega)]; exact h.t4
  · rw [if_neg (by omega), if_neg (by omega)]; exact h.t5
  · rw [if_pos rfl]

theorem Rst.chg {w w' : World} {R Pb Sb Tb n x : Nat} {X : Int} {cp : Nat} {two : Bool} (h : Rst w R Pb Sb n x X cp two) (hc : Chg [Tb] w w') (h1 : Tb ≠ R) (h2 : Tb ≠ Pb) (h3 : Tb ≠ Sb) : Rst w' R Pb Sb n x X cp two := by
  obtain ⟨f, hf⟩ := h.st
  have lR := World.block_lt_of_cell? w _ h.r0
  have lP := World.block_lt_of_cell? w _ h.p0
  have nR : R ∉ [Tb] := by simpa using fun e => h1 e.symm
  have nP : Pb ∉ [Tb] := by simpa using fun e => h2 e.symm
  have nS : Sb ∉ [Tb] := by simpa using fun e => h3 e.symm
  exact ⟨(hc.cell (by exact lR) (by exact nR)).trans h.r0, (hc.cell (by exact lR) (by exact nR)).trans h.r2, (hc.cell (by exact lR) (by exact nR)).trans h.r8, (hc.cell (by exact lR) (by exact nR)).trans h.r13, (hc.cell (by exact lP) (by exact nP)).trans h.p0, (hc.cell (by exact lP) (by exact nP)).trans h.p1, f, hf.of_block (hc.block _ hf.lt nS)⟩

set_option maxRecDepth 1000000 in
set_option maxHeartbeats 4000000 in
/-- setLists: the same predecessor and predecessor list, a new successor list. -/
theorem setLists_any (pred : H) (L P : List H) (B R Pb Tb Sb n x : Nat) (X : Int) (cp : Nat) (two st : Bool) (vS vP v : Value) (f : Nat → Value) (w : World) (hx : x < n) (r11 : w.cell? ⟨R, 11, none⟩ = some (.slice (some ⟨Tb, 0, none⟩) n n)) (r12 : w.cell? ⟨R, 12, none⟩ = some (.bool false))
    (hrow : w.rowIs Tb 67 (n * 12) f) (hf : TabF f x pred vS vP st) (hR : Rst w R Pb Sb n x X cp two)
    (hL : Hs w B v L) (hP : Hs w B vP P) (hnL : L.length ≤ 65536) (hnP : P.length ≤ 65536) (n1 : Sb ≠ R) (n2 : Sb ≠ Tb) (n3 : Sb ≠ Pb) (n4 : Tb ≠ R) (n5 : Tb ≠ Pb) :
    Calls Yba.prog 19 #[.pointer (some ⟨R, 0, none⟩), .int .i64 x, pred.val, v, vP] w fun e w' => e = .returned (.tuple #[]) ∧ Chg [Tb, Sb] w w' ∧ w'.rowIs Tb 67 (n * 12) (setF f x v) := by
  have hT := Tab.of_row hx r11 hrow hf
  have HR : Hid (Rst w R Pb Sb n x X cp two) := hR
  have HL : Hid (Hs w B v L) := hL
  have HP : Hid (Hs w B vP P) := hP
  have HRow : Hid (w.rowIs Tb 67 (n * 12) f) := hrow
  have HF : Hid (TabF f x pred vS vP st) := hf
  have HR11 : Hid (w.cell? ⟨R, 11, none⟩ = some (.slice (some ⟨Tb, 0, none⟩) n n)) := r11
  obtain ⟨_, _, t0, t1, t2, t3, t4, t5, t8⟩ := hT
  have f0 := hrow.frozen (x * 12)
  have f1 := hrow.frozen (x * 12 + 1)
  have f2 := hrow.frozen (x * 12 + 2)
  have f3 := hrow.frozen (x * 12 + 3)
  have f4 := hrow.frozen (x * 12 + 4)
  have f8 := hrow.frozen (x * 12 + 8)
  have lT : Tb < w.heap.size := hrow.lt
  have lR : R < w.heap.size := World.block_lt_of_cell? w _ r11
  have r13 := hR.r13
  obtain ⟨aL, cL, gL, eL, _⟩ := hL.open
  obtain ⟨aP, cP, gP, eP, _⟩ := hP.open
  subst eL eP
  clear hR hL hP hrow hf
  simp only [H.val]
  go_enter Yba.func19, Yba.ntmps19
  refine wp_seq_k ?_
  intro K hK
  have HK := show Hid _ from hK
  clear hK
  go_wp2_with fail
  refine HK.out _ _ ?_
  clear HK K
  generalize hwx : World.alloc _ _ = wx
  obtain ⟨hbx, szx, e0, e1, e2⟩ := Boxed.of hwx
  clear hwx
  have q11 := (hbx.cell (p := ⟨R, 11, none⟩) lR).trans r11
  have q12 := (hbx.cell (p := ⟨R, 12, none⟩) lR).trans r12
  have q13 := (hbx.cell (p := ⟨R, 13, none⟩) lR).trans r13
  have s0 := (hbx.cell (p := ⟨Tb, x * 12, none⟩) lT).trans t0
  have s1 := (hbx.cell (p := ⟨Tb, x * 12 + 1, none⟩) lT).trans t1
  have s2 := (hbx.cell (p := ⟨Tb, x * 12 + 2, none⟩) lT).trans t2
  have s3 := (hbx.cell (p := ⟨Tb, x * 12 + 3, none⟩) lT).trans t3
  have s4 := (hbx.cell (p := ⟨Tb, x * 12 + 4, none⟩) lT).trans t4
  have s8 := (hbx.cell (p := ⟨Tb, x * 12 + 8, none⟩) lT).trans t8
  have g0 := (hbx.frozen (p := ⟨Tb, x * 12, none⟩) lT).trans f0
  have g1 := (hbx.frozen (p := ⟨Tb, x * 12 + 1, none⟩) lT).trans f1
  have g2 := (hbx.frozen (p := ⟨Tb, x * 12 + 2, none⟩) lT).trans f2
  have g3 := (hbx.frozen (p := ⟨Tb, x * 12 + 3, none⟩) lT).trans f3
  have g4 := (hbx.frozen (p := ⟨Tb, x * 12 + 4, none⟩) lT).trans f4
  have g8 := (hbx.frozen (p := ⟨Tb, x * 12 + 8, none⟩) lT).trans f8
  have HB : Hid (Below w.heap.size w wx) := hbx
  clear hbx r11 r12 r13 t0 t1 t2 t3 t4 t5 t8 f0 f1 f2 f3 f4 f8
  have nTw : ¬ Tb = w.heap.size := by omega
  have nwT : ¬ w.heap.size = Tb := by omega
  have fin : ∀ wy : World, wy = (((((wx.setCell ⟨Tb, x * 12, none⟩ (.int .i64 pred.node)).setCell ⟨Tb, x * 12 + 1, none⟩ (.pointer (some ⟨pred.c, 0, none⟩))).setCell ⟨Tb, x * 12 + 2, none⟩ (.int .i64 pred.links)).setCell ⟨Tb, x * 12 + 3, none⟩ (.slice aL L.length cL)).setCell ⟨Tb, x * 12 + 4, none⟩ (.slice aP P.length cP)).setCell ⟨Tb, x * 12 + 8, none⟩ (.bool true) →
      Calls Yba.prog 25 #[.pointer (some ⟨R, 0, none⟩), .int .i64 x] wy fun e w' => e = .returned (.tuple #[]) ∧ Chg [Tb, Sb] w w' ∧ w'.rowIs Tb 67 (n * 12) (setF f x (.slice aL L.length cL)) := by
    intro wy hy
    have hrx : wx.rowIs Tb 67 (n * 12) f := HRow.out.of_block (HB.out.block _ lT)
    have hry : wy.rowIs Tb 67 (n * 12) (setF f x (.slice aL L.length cL)) := by
      subst hy
      refine ((((((hrx.set _ _).set _ _).set _ _).set _ _).set _ _).set _ _).congr (fun i hi => ?_)
      unfold setF
      by_cases h8 : i = x * 12 + 8
      · rw [if_pos h8, if_pos h8]
      · rw [if_neg h8, if_neg h8]
        by_cases h4 : i = x * 12 + 4
        · rw [if_pos h4, if_neg (by omega), h4]; exact HF.out.t4.symm
        · rw [if_neg h4]
          by_cases h3 : i = x * 12 + 3
          · rw [if_pos h3, if_pos h3]
          · rw [if_neg h3, if_neg h3]
            by_cases h2 : i = x * 12 + 2
            · rw [if_pos h2, h2]; exact HF.out.t2.symm
            · rw [if_neg h2]
              by_cases h1 : i = x * 12 + 1
              · rw [if_pos h1, h1]; exact HF.out.t1.symm
              · rw [if_neg h1]
                by_cases h0 : i = x * 12
                · rw [if_pos h0, h0]; exact HF.out.t0.symm
                · rw [if_neg h0]
    have hcx : Chg [Tb] wx wy := by
      subst hy
      exact ((((((Chg.refl _ _).setCell (by simp) _).setCell (by simp) _).setCell (by simp) _).setCell (by simp) _).setCell (by simp) _).setCell (by simp) _
    have hcy : Chg [Tb] w wy := (Chg.of_below HB.out).trans hcx
    have hy11 : wy.cell? ⟨R, 11, none⟩ = some (.slice (some ⟨Tb, 0, none⟩) n n) := (hcy.cell lR (by simpa using fun e => n4 e.symm)).trans HR11.out
    refine (restate_any pred L P B R Pb Tb Sb n x X cp two true _ _ wy (Tab.of_row hx hy11 hry (setF_tab HF.out _)) (HR.out.chg hcy n4 n5 (fun e => n2 e.symm)) (HL.out.chgT HRow.out (by decide) hcy) (HP.out.chgT HRow.out (by decide) hcy) hnL hnP n1 n2 n3).mono ?_
    rintro e w' ⟨rfl, hc⟩
    refine ⟨rfl, (hcy.mono (by simp)).trans (hc.mono (by simp)), hry.of_block (hc.block _ hry.lt (by simpa using fun e => n2 e.symm))⟩
  have HFin := show Hid _ from fin
  clear fin
  cases two with
  | true =>
    go_wp2_with fail
    refine (recount_any R _ _ _ wx q12).mono ?_
    rintro e w1 ⟨rfl, rfl⟩
    go_wp2_with fail
    refine (recount_any R _ _ _ w1 q12).mono ?_
    rintro e w2 ⟨rfl, rfl⟩
    go_wp2_with fail
    refine (HFin.out _ rfl).mono ?_
    rintro e w3 ⟨rfl, hc3, hr3⟩
    go_wp2_with fail
    simp [bodyPost, results, Yba.results19]
    exact ⟨hc3, hr3⟩
  | false =>
    go_wp2_with fail
    refine (recount_any R _ _ _ wx q12).mono ?_
    rintro e w1 ⟨rfl, rfl⟩
    go_wp2_with fail
    refine (HFin.out _ rfl).mono ?_
    rintro e w3 ⟨rfl, hc3, hr3⟩
    go_wp2_with fail
    simp [bodyPost, results, Yba.results19]
    exact ⟨hc3, hr3⟩

theorem Hs.chgX {w w' : World} {B : Nat} {X : List Nat} {v : Value} {L : List H} (h : Hs w B v L) (hr : ∀ b ∈ X, ∃ t n f, w.rowIs b t n f ∧ t ≠ 64) (hc : Chg X w w') : Hs w' B v L := by
  rcases h with h | ⟨g, cap, hv, hB, hp, hm⟩
  · exact .inl h
  · refine .inr ⟨g, cap, hv, hB, hp.of_block (hc.block g hp.lt (fun hx => ?_)), hm⟩
    obtain ⟨t, n, f, hr, ht⟩ := hr g hx
    obtain ⟨_, ⟨c1, e1, _⟩, _⟩ := hp
    obtain ⟨c2, e2, _⟩ := hr
    rw [e1] at e2
    injection e2 with e2
    injection e2 with _ e2
    exact ht e2.symm

/-- What takeSuccessors leaves behind. -/
def Took (w w' : World) (Tb Sb n x : Nat) (f : Nat → Value) (S D : List H) : Prop :=
  (D = S ∧ Below w.heap.size w w') ∨ (D ≠ S ∧ Chg [Tb, Sb] w w' ∧ ∃ v, Hs w' w.heap.size v D ∧ w'.rowIs Tb 67 (n * 12) (setF f x v))

set_option maxRecDepth 1000000 in
set_option maxHeartbeats 4000000 in
/-- takeSuccessors. -/
theorem take_any (ID : Nat → Int) (pred : H) (hs S P : List H) (B U R Pb Tb Sb n x : Nat) (X : Int) (l cp : Nat) (two st : Bool) (vH vS vP : Value) (f : Nat → Value) (w : World) (hx : x < n) (r11 : w.cell? ⟨R, 11, none⟩ = some (.slice (some ⟨Tb, 0, none⟩) n n)) (r12 : w.cell? ⟨R, 12, none⟩ = some (.bool false))
    (hRn : Rng w U R Pb n x X l) (hrow : w.rowIs Tb 67 (n * 12) f) (hf : TabF f x pred vS vP st) (hR : Rst w R Pb Sb n x X cp two)
    (hH : Hs w B vH hs) (hS : Hs w B vS S) (hP : Hs w B vP P) (hnH : hs.length ≤ 65536) (hnP : P.length ≤ 65536) (hi : Ids w ID (pred :: (S ++ P) ++ hs)) (n1 : Sb ≠ R) (n2 : Sb ≠ Tb) (n3 : Sb ≠ Pb) (n4 : Tb ≠ R) (n5 : Tb ≠ Pb) :
    Calls Yba.prog 12 #[.pointer (some ⟨U, 0, none⟩), .int .i64 x, vH] w fun e w' => e = .returned (.tuple #[]) ∧ Took w w' Tb Sb n x f S ((dedup ID X l hs).map (findH ID (pred :: (S ++ P)))) := by
  have hT := Tab.of_row hx r11 hrow hf
  have HT : Hid (Tab w R Tb n x pred vS vP st) := hT
  have HRn : Hid (Rng w U R Pb n x X l) := hRn
  have HR : Hid (Rst w R Pb Sb n x X cp two) := hR
  have HH : Hid (Hs w B vH hs) := hH
  have HS : Hid (Hs w B vS S) := hS
  have HP : Hid (Hs w B vP P) := hP
  have HI : Hid (Ids w ID (pred :: (S ++ P) ++ hs)) := hi
  have HRow : Hid (w.rowIs Tb 67 (n * 12) f) := hrow
  have HF : Hid (TabF f x pred vS vP st) := hf
  have HR12 : Hid (w.cell? ⟨R, 12, none⟩ = some (.bool false)) := r12
  have HR11 : Hid (w.cell? ⟨R, 11, none⟩ = some (.slice (some ⟨Tb, 0, none⟩) n n)) := r11
  have u0 := hRn.u0
  have lR : R < w.heap.size := World.block_lt_of_cell? w _ r11
  clear hT hRn hR hH hS hP hi hrow hf r12
  go_enter Yba.func12, Yba.ntmps12
  go_wp2_with fail
  refine (heldList_any ID U R Pb Tb n x X l pred hs S P B vH vS vP st w HRn.out HT.out HH.out HS.out HP.out hnH HI.out).mono ?_
  rintro e w1 ⟨v, rfl, hv, hb⟩
  obtain ⟨D, hD⟩ : ∃ D, (dedup ID X l hs).map (findH ID (pred :: (S ++ P))) = D := ⟨_, rfl⟩
  rw [hD] at hv
  have HD : Hid ((dedup ID X l hs).map (findH ID (pred :: (S ++ P))) = D) := hD
  have lD : D.length ≤ 65536 := by
    rw [← hD, List.length_map]
    have := fold_len (ID := ID) (X := X) (l := l) hs []; simp at this; unfold dedup; omega
  have HIDs : Hid (Ids w ID (D ++ S)) := by
    intro y hy
    rcases List.mem_append.1 hy with hy | hy
    · rw [← hD] at hy
      obtain ⟨h, hh, rfl⟩ := List.mem_map.1 hy
      unfold findH
      cases hfd : (pred :: (S ++ P)).find? (fun g => ID g.c == ID h.c) with
      | none =>
        refine HI.out h (List.mem_append.2 (.inr ?_))
        rcases fold_sub _ _ h hh with h1 | h1
        · simp at h1
        · exact h1
      | some g => exact HI.out g (List.mem_append.2 (.inl (List.mem_of_find?_eq_some hfd)))
    · exact HI.out y (by simp [hy])
  have HV : Hid (Hs w1 w.heap.size v D) := hv
  have HB : Hid (Below w.heap.size w w1) := hb
  obtain ⟨_, q11, t0, t1, t2, t3, t4, t5, t8⟩ := HT.out.later hb
  have u0' := (HRn.out.later hb).u0
  clear hb hv hD u0 r11
  go_wp2_with fail
  refine (equal_any ID D S w.heap.size B v vS w1 HV.out (HS.out.later HB.out) (HIDs.out.later HB.out)).mono ?_
  rintro e w2 ⟨rfl, q, rfl⟩
  by_cases hDS : D = S
  · have hd1 : decide (D = S) = true := by simp [hDS]
    go_wp2_with fail
    simp [bodyPost, results, Yba.results12]
    rw [HD.out]
    exact .inl ⟨hDS, below_drewN HB.out _⟩
  · have hd1 : decide (D = S) = false := by simp [hDS]
    have HDS : Hid (D ≠ S) := hDS
    have eval : H.val pred = .agg #[.int .i64 pred.node, .pointer (some ⟨pred.c, 0, none⟩), .int .i64 pred.links] := rfl
    go_wp2_with fail
    refine region_tail2 14 (by kernel_rfl) ?_
    intro KK hKK
    simp only [List.take_succ_cons, List.take_zero]
    repeat (refine wpStill_want rfl (fun K hK => ?_); go_simp; refine hK _ ?_; clear hK K)
    refine wpStill_nil ?_
    refine hKK _ ?_
    clear hKK KK
    simp only [List.drop_succ_cons, List.drop_zero]
    refine wpList_want rfl (fun K hK => ?_)
    go_simp
    have hb2 : Below w.heap.size w (w1.drewN q).drew := below_drewN (below_drewN HB.out q) 1
    have hrow2 := HRow.out.of_block (hb2.block _ HRow.out.lt)
    refine (setLists_any pred D P (min w.heap.size B) R Pb Tb Sb n x X cp two st vS vP v f (w1.drewN q).drew hx ((hb2.cell (by exact lR)).trans HR11.out) ((hb2.cell (by exact lR)).trans HR12.out)
      hrow2 HF.out (HR.out.later hb2) ((HV.out.mono (Nat.min_le_left _ _)).later (below_drewN (below_drewN (Below.refl _ _) q) 1)) ((HP.out.mono (Nat.min_le_right _ _)).later hb2) lD hnP n1 n2 n3 n4 n5).mono ?_
    rintro e w3 ⟨rfl, hc3, hr3⟩
    refine hK _ _ ?_
    clear hK K
    have HC3 : Hid (Chg [Tb, Sb] w w3) := (Chg.of_below hb2).trans hc3
    have HR3 : Hid (w3.rowIs Tb 67 (n * 12) (setF f x v)) := hr3
    have HV3 : Hid (Hs w3 w.heap.size v D) := by
      refine (HV.out.later (w' := (w1.drewN q).drew) (below_drewN (below_drewN (Below.refl _ _) q) 1)).chgX ?_ hc3
      intro b hbm
      rcases List.mem_cons.1 hbm with rfl | hbm
      · exact ⟨67, _, _, hrow2, by decide⟩
      · simp only [List.mem_singleton] at hbm
        subst hbm
        obtain ⟨fs, hfs⟩ := (HR.out.later hb2).st
        exact ⟨125, _, _, hfs, by decide⟩
    clear hc3 hr3 hb2 hrow2
    go_wp2_with fail
    simp [bodyPost, results, Yba.results12]
    rw [HD.out]
    exact .inr ⟨HDS.out, HC3.out, v, HV3.out, HR3.out⟩
end Go.Proofs.Ybulkdkrk.lawS5587CWhole
