import Derived.Test.YbulkdkrkATake
namespace Go.Proofs.Ybulkdkrk.lawS5587AWhole
open Go.ChangeShapes Go.WideShapes Go.ChangeAt Go.RowKit

/-- Are the two even? -/
def evenB (ok : Bool) (nd r2 g2 node raised grown : Int) : Bool := ok && (nd == node) && (r2 == raised) && (g2 == grown)

set_option maxHeartbeats 2000000 in
theorem even_any (b bi bs bl bt ba n : Nat) (I S L T A : Nat → Int) (sd rs gr nd r2 g2 : Int) (ok : Bool) (c : Nat) (node x ld st rs' : Int) (heard : Bool) (w : World)
    (hL : Led w b bi bs bl bt ba n I S L T A sd rs gr nd r2 g2 ok) (hc : w.cell? ⟨c, 6, none⟩ = some (.int .u64 rs')) (hcl : c < w.heap.size) :
    Calls Yba.prog 14 #[.pointer (some ⟨b, 0, none⟩), .agg #[.int .i64 node, .int .u64 x, .int .i64 ld, .int .u64 st, .bool heard, .pointer (some ⟨c, 0, none⟩)]] w fun e w' => e = .returned (.bool (evenB ok nd r2 g2 node rs' gr)) ∧ Below w.heap.size w w' := by
  obtain ⟨c0, c1, c2, c3, c4, c5, c6, c7, c8, c9, c10, c11, _⟩ := hL.cells
  have lb := hL.lts b (by simp)
  clear hL
  unfold evenB
  cases ok with
  | false =>
    go_enter Yba.func14, Yba.ntmps14
    go_wp2
    go_quiet (fail)
    go_wp2
    go_ret
    exact ⟨by simp, below_drewN (by go_grown) _⟩
  | true =>
    cases h1 : (nd == node) with
    | false =>
      go_enter Yba.func14, Yba.ntmps14
      go_wp2
      go_quiet (fail)
      go_wp2
      go_ret
      exact ⟨by simp [*], below_drewN (by go_grown) _⟩
    | true =>
      cases h2 : (r2 == rs') with
      | false =>
        go_enter Yba.func14, Yba.ntmps14
        go_wp2
        go_quiet (fail)
        go_wp2
        go_ret
        exact ⟨by simp [*], below_drewN (by go_grown) _⟩
      | true =>
        cases h3 : (g2 == gr) with
        | false =>
          go_enter Yba.func14, Yba.ntmps14
          go_wp2
          go_quiet (fail)
          go_wp2
          go_ret
          exact ⟨by simp [*], below_drewN (by go_grown) _⟩
        | true =>
          go_enter Yba.func14, Yba.ntmps14
          go_wp2
          go_quiet (fail)
          go_wp2
          go_ret
          exact ⟨by simp [*], below_drewN (by go_grown) _⟩

/-- The sender, in a block of its own. -/
def Snd (w : World) (q : Nat) (node x ld st : Int) (heard : Bool) (c : Nat) : Prop :=
  w.heap[q]? = some (.cells #[.int .i64 node, .int .u64 x, .int .i64 ld, .int .u64 st, .bool heard, .pointer (some ⟨c, 0, none⟩)] 42 (0, 0))
theorem Snd.cells {w : World} {q c : Nat} {node x ld st : Int} {heard : Bool} (h : Snd w q node x ld st heard c) :
    w.cell? ⟨q, 0, none⟩ = some (.int .i64 node) ∧ w.cell? ⟨q, 1, none⟩ = some (.int .u64 x) ∧ w.cell? ⟨q, 2, none⟩ = some (.int .i64 ld) ∧ w.cell? ⟨q, 3, none⟩ = some (.int .u64 st) ∧ w.cell? ⟨q, 4, none⟩ = some (.bool heard) ∧ w.cell? ⟨q, 5, none⟩ = some (.pointer (some ⟨c, 0, none⟩)) := by
  unfold Snd at h
  simp [World.cell?, h]
theorem Snd.chg {w w' : World} {q c : Nat} {node x ld st : Int} {heard : Bool} (h : Snd w q node x ld st heard c) {X : List Nat} (k : Chg X w w') (hx : q ∉ X) : Snd w' q node x ld st heard c :=
  (k.block q (Array.getElem?_eq_some_iff.1 h).1 hx).trans h

set_option maxRecDepth 100000 in
set_option maxHeartbeats 4000000 in
theorem learn_even (b bi bs bl bt ba n : Nat) (I S L T A : Nat → Int) (sd rs gr nd r2 g2 : Int) (ok : Bool) (c ci cs cl ct ca m : Nat) (J TS TL TT TA : Nat → Int) (sd' rs' gr' nd' r2' g2' : Int) (ok' : Bool) (node x ld st : Int) (heard : Bool) (w : World) (hn : n ≤ 1024)
    (hI : ∀ i j, i < j → j < n → I i < I j) (hJ : ∀ i j, i < j → j < m → J i < J j)
    (hL : Led w b bi bs bl bt ba n I S L T A sd rs gr nd r2 g2 ok) (hO : Led w c ci cs cl ct ca m J TS TL TT TA sd' rs' gr' nd' r2' g2' ok')
    (hap : ∀ g, g ∈ [c, ci, cs, cl, ct, ca] → g ∉ [b, bs, bl]) (hev : evenB ok nd r2 g2 node rs' gr = true) :
    Calls Yba.prog 7 #[.pointer (some ⟨b, 0, none⟩), .agg #[.int .i64 node, .int .u64 x, .int .i64 ld, .int .u64 st, .bool heard, .pointer (some ⟨c, 0, none⟩)]] w fun e w' => e = .returned (.tuple #[]) ∧ Chg [b, bs, bl] w w' ∧
      ∃ S' L' r', OwnStep I n x heard st ld (S) (L) (rs) S' L' r' ∧ Led w' b bi bs bl bt ba n I S' L' T A sd r' gr node rs' gr true := by
  have HL : Hid (Led w b bi bs bl bt ba n I S L T A sd rs gr nd r2 g2 ok) := hL
  have HO : Hid (Led w c ci cs cl ct ca m J TS TL TT TA sd' rs' gr' nd' r2' g2' ok') := hO
  have HI : Hid (∀ i j, i < j → j < n → I i < I j) := hI
  have HJ : Hid (∀ i j, i < j → j < m → J i < J j) := hJ
  have HA : Hid (∀ g, g ∈ [c, ci, cs, cl, ct, ca] → g ∉ [b, bs, bl]) := hap
  have HE : Hid (evenB ok nd r2 g2 node rs' gr = true) := hev
  have HQ : Hid (w.heap.size ∉ [b, bs, bl]) := by
    intro h
    simp only [List.mem_cons, List.not_mem_nil, or_false] at h
    have l1 := hL.lts b (by simp); have l2 := hL.lts bs (by simp); have l3 := hL.lts bl (by simp)
    omega
  clear hL hO hI hJ hap hev
  obtain ⟨w1, hw1⟩ : ∃ w1, w1 = w.alloc (.cells #[.int .i64 node, .int .u64 x, .int .i64 ld, .int .u64 st, .bool heard, .pointer (some ⟨c, 0, none⟩)] 42) := ⟨_, rfl⟩
  have h1 : Chg [] w w1 := by rw [hw1]; exact (Chg.refl [] _).alloc _
  have hs1 : Snd w1 w.heap.size node x ld st heard c := by rw [hw1]; exact Deep.blk_alloc_new _ _
  have hL1 := HL.out.chg h1 (by simp)
  have hO1 := HO.out.chg h1 (by simp)
  obtain ⟨s0, s1, s2, s3, s4, s5⟩ := hs1.cells
  have HW1 : Hid (w1 = w.alloc (.cells #[.int .i64 node, .int .u64 x, .int .i64 ld, .int .u64 st, .bool heard, .pointer (some ⟨c, 0, none⟩)] 42)) := hw1
  clear hw1
  go_enter Yba.func7, Yba.ntmps7
  go_upto_region 1 with fail
  rw [← HW1.out]
  go_wp2_with fail
  refine (even_any b bi bs bl bt ba n I S L T A sd rs gr nd r2 g2 ok c node x ld st rs' heard w1 hL1 (hO1.cells.2.2.2.2.2.2.1) (hO1.lts c (by simp))).mono ?_
  rintro e w2 ⟨rfl, hb2⟩
  rw [HE.out]
  have h2 : Chg [] w1 w2 := Chg.of_below hb2
  have hL2 := hL1.chg h2 (by simp)
  have hO2 := hO1.chg h2 (by simp)
  have hs2 := hs1.chg h2 (by simp)
  have h12 := h1.trans h2
  clear s0 s1 s2 s3 s4 s5 h1 h2 hb2 hs1 hL1 hO1 HW1
  obtain ⟨s0, s1, s2, s3, s4, s5⟩ := hs2.cells
  go_wp2_with fail
  refine (keepOwn_any b bi bs bl bt ba n I (S) (L) T A sd (rs) gr nd r2 g2 ok heard x ld st w2 hn HI.out hL2).mono ?_
  rintro e w4 ⟨rfl, h4, S', L', r', hstep, hL4⟩
  have hO4 := hO2.chg h4 HA.out
  have hs4 := hs2.chg h4 HQ.out
  have HC4 : Hid (Chg [b, bs, bl] w w4) := (h12.mono (by simp)).trans h4
  have HST : Hid (OwnStep I n x heard st ld (S) (L) (rs) S' L' r') := hstep
  clear s0 s1 s2 s3 s4 s5 h4 hstep
  obtain ⟨s0, s1, s2, s3, s4, s5⟩ := hs4.cells
  obtain ⟨c0, c1, c2, c3, c4, c5, c6, c7, c8, c9, c10, c11, _⟩ := hL4.cells
  obtain ⟨_, _, _, _, _, _, o6, _⟩ := hO4.cells
  have f8 := hL4.free 8
  have f9 := hL4.free 9
  have f10 := hL4.free 10
  have f11 := hL4.free 11
  have HL4 : Hid (Led w4 b bi bs bl bt ba n I S' L' T A sd r' gr nd r2 g2 ok) := hL4
  clear hL4 hO4 hs4
  go_wp2
  go_region
  go_end0
  exact ⟨rfl, ((((HC4.out.setCell (by simp) _).setCell (by simp) _).setCell (by simp) _).setCell (by simp) _).drew, S', L', r', HST.out, (HL4.out.setSince _ _ _ _).drew⟩


set_option maxRecDepth 100000 in
set_option maxHeartbeats 4000000 in
theorem learn_odd (b bi bs bl bt ba n : Nat) (I S L T A : Nat → Int) (sd rs gr nd r2 g2 : Int) (ok : Bool) (c ci cs cl ct ca m : Nat) (J TS TL TT TA : Nat → Int) (sd' rs' gr' nd' r2' g2' : Int) (ok' : Bool) (node x ld st : Int) (heard : Bool) (w : World) (hn : n ≤ 1024) (hm : m ≤ 1024)
    (hI : ∀ i j, i < j → j < n → I i < I j) (hJ : ∀ i j, i < j → j < m → J i < J j)
    (hL : Led w b bi bs bl bt ba n I S L T A sd rs gr nd r2 g2 ok) (hO : Led w c ci cs cl ct ca m J TS TL TT TA sd' rs' gr' nd' r2' g2' ok')
    (hap : ∀ g, g ∈ [c, ci, cs, cl, ct, ca] → g ∉ [b, bs, bl]) (hev : evenB ok nd r2 g2 node rs' gr = false) :
    Calls Yba.prog 7 #[.pointer (some ⟨b, 0, none⟩), .agg #[.int .i64 node, .int .u64 x, .int .i64 ld, .int .u64 st, .bool heard, .pointer (some ⟨c, 0, none⟩)]] w fun e w' => e = .returned (.tuple #[]) ∧ Chg [b, bs, bl] w w' ∧
      ∃ S' L' r', OwnStep I n x heard st ld (mS I J S TS m) (mL I J S TS L TL m) (mR inc I J S TS m rs n) S' L' r' ∧ Led w' b bi bs bl bt ba n I S' L' T A sd r' gr node rs' gr true := by
  have HL : Hid (Led w b bi bs bl bt ba n I S L T A sd rs gr nd r2 g2 ok) := hL
  have HO : Hid (Led w c ci cs cl ct ca m J TS TL TT TA sd' rs' gr' nd' r2' g2' ok') := hO
  have HI : Hid (∀ i j, i < j → j < n → I i < I j) := hI
  have HJ : Hid (∀ i j, i < j → j < m → J i < J j) := hJ
  have HA : Hid (∀ g, g ∈ [c, ci, cs, cl, ct, ca] → g ∉ [b, bs, bl]) := hap
  have HE : Hid (evenB ok nd r2 g2 node rs' gr = false) := hev
  have HQ : Hid (w.heap.size ∉ [b, bs, bl]) := by
    intro h
    simp only [List.mem_cons, List.not_mem_nil, or_false] at h
    have l1 := hL.lts b (by simp); have l2 := hL.lts bs (by simp); have l3 := hL.lts bl (by simp)
    omega
  clear hL hO hI hJ hap hev
  obtain ⟨w1, hw1⟩ : ∃ w1, w1 = w.alloc (.cells #[.int .i64 node, .int .u64 x, .int .i64 ld, .int .u64 st, .bool heard, .pointer (some ⟨c, 0, none⟩)] 42) := ⟨_, rfl⟩
  have h1 : Chg [] w w1 := by rw [hw1]; exact (Chg.refl [] _).alloc _
  have hs1 : Snd w1 w.heap.size node x ld st heard c := by rw [hw1]; exact Deep.blk_alloc_new _ _
  have hL1 := HL.out.chg h1 (by simp)
  have hO1 := HO.out.chg h1 (by simp)
  obtain ⟨s0, s1, s2, s3, s4, s5⟩ := hs1.cells
  have HW1 : Hid (w1 = w.alloc (.cells #[.int .i64 node, .int .u64 x, .int .i64 ld, .int .u64 st, .bool heard, .pointer (some ⟨c, 0, none⟩)] 42)) := hw1
  clear hw1
  go_enter Yba.func7, Yba.ntmps7
  go_upto_region 1 with fail
  rw [← HW1.out]
  go_wp2_with fail
  refine (even_any b bi bs bl bt ba n I S L T A sd rs gr nd r2 g2 ok c node x ld st rs' heard w1 hL1 (hO1.cells.2.2.2.2.2.2.1) (hO1.lts c (by simp))).mono ?_
  rintro e w2 ⟨rfl, hb2⟩
  rw [HE.out]
  have h2 : Chg [] w1 w2 := Chg.of_below hb2
  have hL2 := hL1.chg h2 (by simp)
  have hO2 := hO1.chg h2 (by simp)
  have hs2 := hs1.chg h2 (by simp)
  have h12 := h1.trans h2
  clear s0 s1 s2 s3 s4 s5 h1 h2 hb2 hs1 hL1 hO1 HW1
  obtain ⟨s0, s1, s2, s3, s4, s5⟩ := hs2.cells
  go_wp2_with fail
  refine (take_any b bi bs bl bt ba n I S L T A sd rs gr nd r2 g2 ok c ci cs cl ct ca m J TS TL TT TA sd' rs' gr' nd' r2' g2' ok' w2 hn hm HI.out HJ.out hL2 hO2 HA.out).mono ?_
  rintro e w3 ⟨rfl, h3, hL3⟩
  have hO3 := hO2.chg h3 HA.out
  have hs3 := hs2.chg h3 HQ.out
  have h13 : Chg [b, bs, bl] w w3 := (h12.mono (by simp)).trans h3
  clear s0 s1 s2 s3 s4 s5 h3 hL2 hO2 hs2 h12
  obtain ⟨s0, s1, s2, s3, s4, s5⟩ := hs3.cells
  go_wp2_with fail
  refine (keepOwn_any b bi bs bl bt ba n I (mS I J S TS m) (mL I J S TS L TL m) T A sd (mR inc I J S TS m rs n) gr nd r2 g2 ok heard x ld st w3 hn HI.out hL3).mono ?_
  rintro e w4 ⟨rfl, h4, S', L', r', hstep, hL4⟩
  have hO4 := hO3.chg h4 HA.out
  have hs4 := hs3.chg h4 HQ.out
  have HC4 : Hid (Chg [b, bs, bl] w w4) := h13.trans h4
  have HST : Hid (OwnStep I n x heard st ld (mS I J S TS m) (mL I J S TS L TL m) (mR inc I J S TS m rs n) S' L' r') := hstep
  clear s0 s1 s2 s3 s4 s5 h4 hstep
  obtain ⟨s0, s1, s2, s3, s4, s5⟩ := hs4.cells
  obtain ⟨c0, c1, c2, c3, c4, c5, c6, c7, c8, c9, c10, c11, _⟩ := hL4.cells
  obtain ⟨_, _, _, _, _, _, o6, _⟩ := hO4.cells
  have f8 := hL4.free 8
  have f9 := hL4.free 9
  have f10 := hL4.free 10
  have f11 := hL4.free 11
  have HL4 : Hid (Led w4 b bi bs bl bt ba n I S' L' T A sd r' gr nd r2 g2 ok) := hL4
  clear hL4 hO4 hs4
  go_wp2
  go_region
  go_end0
  exact ⟨rfl, ((((HC4.out.setCell (by simp) _).setCell (by simp) _).setCell (by simp) _).setCell (by simp) _).drew, S', L', r', HST.out, (HL4.out.setSince _ _ _ _).drew⟩

end Go.Proofs.Ybulkdkrk.lawS5587AWhole
