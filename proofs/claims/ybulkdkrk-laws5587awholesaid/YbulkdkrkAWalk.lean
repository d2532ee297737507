import Derived.Test.YbulkdkrkAT8
namespace Go.Proofs.Ybulkdkrk.lawS5587AWhole
open Go.ChangeShapes Go.WideShapes Go.ChangeAt Go.RowKit
set_option linter.unusedVariables false

set_option maxRecDepth 1000000 in
set_option maxHeartbeats 8000000 in
theorem walk (a0 : Option Addr) (n c0 eb off : Nat) (G S L : Nat → Int) (a1 : Option Addr) (m c1 fb foff : Nat) (H TS TL : Nat → Int) (rs gr tr nd md sN sR sG oI oP oL oA : Int) (sO oH : Bool) (w : World)
    (hE : Ents w a0 n eb off G S L) (hF : Ents w a1 m fb foff H TS TL) (md0 : 0 ≤ md) (md1 : md ≤ 255) (p0 : 0 ≤ oP) (p1 : oP ≤ 65535) :
    Calls Yba.prog 3 #[.slice a0 n c0, .slice a1 m c1, .int .u64 rs, .int .u64 gr, .int .u64 tr, .int .i64 nd, .int .u8 md, .agg #[.int .i64 sN, .int .u64 sR, .int .u64 sG, .bool sO], .agg #[.int .u64 oI, .int .u16 oP, .int .i64 oL, .int .u64 oA, .bool oH]] w fun e w' => e = .returned (.bool true) ∧ Below w.heap.size w w' := by
  have HE : Hid (Ents w a0 n eb off G S L) := hE
  have HF : Hid (Ents w a1 m fb foff H TS TL) := hF
  clear hE hF
  by_cases hbig : 1024 < n
  · go_enter Yba.func3, Yba.ntmps3
    go_wp2_with fail
    go_ret
    exact ⟨rfl, by go_grown⟩
  by_cases hbig2 : 1024 < m
  · go_enter Yba.func3, Yba.ntmps3
    go_wp2_with fail
    go_ret
    exact ⟨rfl, by go_grown⟩
  obtain ⟨w0, hw0⟩ : ∃ w0, w0 = (w.alloc (.cells #[.int .i64 sN, .int .u64 sR, .int .u64 sG, .bool sO] 25)).alloc (.cells #[.int .u64 oI, .int .u16 oP, .int .i64 oL, .int .u64 oA, .bool oH] 28) := ⟨_, rfl⟩
  have hb0 : Below w.heap.size w w0 := by rw [hw0]; exact ((Below.refl _ _).alloc (Nat.le_refl _) _).alloc (by simp) _
  have HW0 : Hid (w0 = (w.alloc (.cells #[.int .i64 sN, .int .u64 sR, .int .u64 sG, .bool sO] 25)).alloc (.cells #[.int .u64 oI, .int .u16 oP, .int .i64 oL, .int .u64 oA, .bool oH] 28)) := hw0
  clear hw0
  go_enter Yba.func3, Yba.ntmps3
  refine wp_seq_k ?_
  intro K0 hK0
  have HK0 := show Hid _ from hK0
  clear hK0
  go_wp2_with fail
  refine HK0.out _ _ ?_
  clear HK0
  refine wp_seq_k ?_
  intro K1 hK1
  have HK1 := show Hid _ from hK1
  clear hK1
  go_wp2_with fail
  refine HK1.out _ _ ?_
  clear HK1
  rw [← HW0.out]
  refine wp_seq_k ?_
  intro K2 hK2
  have HK2 := show Hid _ from hK2
  clear hK2
  go_wp2_with fail
  refine (build_any a0 n c0 eb off G S L (by omega) w0 (HE.out.later hb0)).mono ?_
  rintro e w1 ⟨p, bi, bs, bl, bt, ba, rfl, hb1, hg1, hl1⟩
  go_wp2_with fail
  refine HK2.out _ _ ?_
  clear HK2
  obtain ⟨_, _, _, _, _, _, p6, p7, _⟩ := hl1.cells
  have f6 := hl1.free 6
  have f7 := hl1.free 7
  have HL1 : Hid (Led w1 p bi bs bl bt ba n (fun i => idOf G (i + 1)) S L (fun i => G i % 2) (fun i => G i + 1) (odds G n) 0 0 0 0 0 false) := hl1
  have HG1 : Hid (∀ g, g ∈ [p, bi, bs, bl, bt, ba] → w0.heap.size ≤ g) := hg1
  have HB1 : Hid (Below w0.heap.size w0 w1) := hb1
  have HB0 : Hid (Below w.heap.size w w0) := hb0
  clear hl1 hg1 hb1 hb0
  refine wp_seq_k ?_
  intro K3 hK3
  have HK3 := show Hid _ from hK3
  clear hK3
  go_wp2_with fail
  refine HK3.out _ _ ?_
  clear HK3
  refine wp_seq_k ?_
  intro K4 hK4
  have HK4 := show Hid _ from hK4
  clear hK4
  go_wp2_with fail
  refine HK4.out _ _ ?_
  clear HK4
  refine wp_seq_k ?_
  intro K5 hK5
  have HK5 := show Hid _ from hK5
  clear hK5
  go_wp2_with fail
  have hE2 : Ents ((w1.setCell ⟨p, 6, none⟩ (.int .u64 rs)).setCell ⟨p, 7, none⟩ (.int .u64 gr)) a1 m fb foff H TS TL := by
    refine HF.out.later ?_
    have hp := HG1.out p (by simp)
    have h0 := HB0.out.size
    exact ((HB0.out.trans (HB1.out.mono h0)).setCell (by simp; omega) _).setCell (by simp; omega) _
  refine (build_any a1 m c1 fb foff H TS TL (by omega) _ hE2).mono ?_
  rintro e w3 ⟨q, ci, cs, cl, ct, ca, rfl, hb3, hg3, hl3⟩
  have hM := mid_of (P := (p, bi, bs, bl, bt, ba)) (R := (q, ci, cs, cl, ct, ca)) (rs := rs) (gr := gr) (tr := tr) HW0.out HB1.out HG1.out HL1.out hb3 hg3 hl3
  obtain ⟨_, _, _, _, _, _, q6, _⟩ := hl3.cells
  have g6 := hl3.free 6
  have HM : Hid (Mid w (w3.setCell ⟨q, 6, none⟩ (.int .u64 tr)) (p, bi, bs, bl, bt, ba) (q, ci, cs, cl, ct, ca) n G S L rs gr 0 0 0 false m H TS TL tr sN sR sG oI oP oL oA sO oH) := hM
  clear hM hb3 hg3 hl3 hE2 p6 p7 f6 f7 HL1 HG1 HB1 HB0 HW0
  go_wp2_with fail
  refine HK5.out _ _ ?_
  clear HK5
  refine wp_seq_k ?_
  intro K6 hK6
  have HK6 := show Hid _ from hK6
  clear hK6
  go_wp2_with fail
  refine HK6.out _ _ ?_
  clear HK6
  obtain ⟨w4, hw4⟩ : ∃ w4, w4 = w3.setCell ⟨q, 6, none⟩ (.int .u64 tr) := ⟨_, rfl⟩
  rw [← hw4]
  have hM := HM.out
  rw [← hw4] at hM
  clear hw4 HM q6 g6
  obtain ⟨_, _, _, _, _, _, _, _, l8, l9, l10, l11, _⟩ := Led.cells hM.l
  have f8 := Led.free hM.l 8
  have f9 := Led.free hM.l 9
  have f10 := Led.free hM.l 10
  have f11 := Led.free hM.l 11
  obtain ⟨b0, b1, b2, b3, _⟩ := hM.box.cells
  have hpq := hM.gel p (by simp [blocks])
  have n1 : ¬ w.heap.size = p := by omega
  have n2 : ¬ p = w.heap.size := by omega
  have HM : Hid (Mid w w4 (p, bi, bs, bl, bt, ba) (q, ci, cs, cl, ct, ca) n G S L rs gr 0 0 0 false m H TS TL tr sN sR sG oI oP oL oA sO oH) := hM
  dsimp only at l8 l9 l10 l11 f8 f9 f10 f11
  clear hM
  refine wp_seq_k ?_
  intro K7 hK7
  have HK7 := show Hid _ from hK7
  clear hK7
  cases hmd : (md % 2 == 1) with
  | true =>
    have HS : Hid (SinceOf md nd tr gr sN sR sG sO nd tr gr true) := .inl ⟨by simpa using hmd, rfl, rfl, rfl, rfl⟩
    go_wp2_with fail
    refine HK7.out _ _ ?_
    exact t8 a0 n c0 eb off G S L a1 m c1 fb foff H TS TL rs gr tr nd md sN sR sG oI oP oL oA sO oH w p bi bs bl bt ba q ci cs cl ct ca nd tr gr true _
      HE.out HF.out (by omega) (by omega) md0 md1 p0 p1 HS.out (HM.out.since _ _ _ _) _ rfl
  | false =>
    have HS : Hid (SinceOf md nd tr gr sN sR sG sO sN sR sG sO) := .inr ⟨by simpa using hmd, rfl, rfl, rfl, rfl⟩
    go_wp2_with fail
    refine HK7.out _ _ ?_
    exact t8 a0 n c0 eb off G S L a1 m c1 fb foff H TS TL rs gr tr nd md sN sR sG oI oP oL oA sO oH w p bi bs bl bt ba q ci cs cl ct ca sN sR sG sO _
      HE.out HF.out (by omega) (by omega) md0 md1 p0 p1 HS.out (HM.out.since _ _ _ _) _ rfl
end Go.Proofs.Ybulkdkrk.lawS5587AWhole
