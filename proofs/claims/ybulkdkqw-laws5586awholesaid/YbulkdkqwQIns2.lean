import Derived.Test.YbulkdkqwQIns
namespace Go.Proofs.Ybulkdkqw.lawS5586AWhole
open Go.ChangeShapes Go.WideShapes Go.ChangeAt Go.RowKit

/-- A []uint64's element. -/
def E64 : Enc Int := ⟨1, fun a => [.int .u64 a], fun _ => rfl, fun _ u hu => by simp at hu; subst hu; rfl⟩
theorem info22 : (Yba.prog.info? 22).map (fun i => (i.zero, i.size, i.bytes)) = some (some (.int .u64 0), 1, 8) := by kernel_rfl
theorem size22 : (Yba.prog.info? 22).map (·.size) = some 1 := by kernel_rfl

/-- Where a slice lies behind a call that may have made it grow. -/
def Loc (w : World) (v v' : Value) : Prop := v'.ownBlock = v.ownBlock ∨ ∃ g, v'.ownBlock = some g ∧ w.heap.size ≤ g

/-- Insert: what comes back. -/
def InsP {α : Type} (E : Enc α) (t : TypeId) (w : World) (B : Nat) (v : Value) (M : List α) (e : Ending) (w' : World) : Prop :=
  ∃ v', e = .returned v' ∧ Sl E t w' B v' M ∧ w.grownBy w' v.ownBlock ∧ Loc w v v'

theorem set_mid (A : List Value) (b u : Value) (C : List Value) : (A ++ b :: C).set A.length u = A ++ u :: C := by
  rw [List.set_append_right _ _ (Nat.le_refl _)]
  simp

theorem grown_into {w w1 w2 : World} {r : Option Nat} {g : Nat} (h1 : w.grownBy w1 r) (h2 : w1.grownBy w2 (some g)) (hl : r = some g ∨ w.heap.size ≤ g) : w.grownBy w2 r :=
  ⟨h2.os.trans h1.os, h2.tape.trans h1.tape, h2.output.trans h1.output, Nat.le_trans h1.size h2.size, fun k hk hr => by
    have hne : some k ≠ some g := fun e => by
      injection e with e
      subst e
      rcases hl with hl | hl
      · exact hr hl.symm
      · omega
    exact (h2.block k (Nat.lt_of_lt_of_le hk h1.size) hne).trans (h1.block k hk hr)⟩

theorem grown_setCell {w : World} {g k : Nat} (u : Value) : w.grownBy (w.setCell ⟨g, k, none⟩ u) (some g) :=
  ⟨rfl, rfl, rfl, by simp, fun j _ hne => Deep.blk_setCell_other _ _ _ _ (fun e => hne (by rw [e]))⟩

set_option maxRecDepth 100000 in
set_option maxHeartbeats 1000000 in
/-- slice.Insert[uint64]. -/
theorem insert64_any (L : List Int) (i : Nat) (x : Int) (B : Nat) (v : Value) (w : World) (hL : Sl E64 22 w B v L) (hB : B ≤ w.heap.size) (hi : i ≤ L.length) (hn : L.length < 100000) :
    Calls Yba.prog 26 #[v, .int .i64 i, .int .u64 x] w fun e w' => InsP E64 22 w B v (L.take i ++ x :: L.drop i) e w' := by
  obtain ⟨v1, w1, hrun, hS1, hg1, hloc1⟩ := hL.push (T := 24) Yba.underlying24 info22 rfl (by decide) hB (by omega) (by decide) 0 #[.int .u64 0] rfl
  obtain ⟨ao, cap, hv1, hop⟩ := hS1.open
  obtain ⟨g, rfl, hBg, hgl, hob, hfz, hcell⟩ := hop (by simp)
  have hlen : (L ++ [(0 : Int)]).length = L.length + 1 := by simp
  rw [hlen] at hv1
  subst hv1
  have HG1 : Hid (w.grownBy w1 v.ownBlock ∧ Loc w v (.slice (some ⟨g, 0, none⟩) (L.length + 1) cap)) := ⟨hg1, hloc1⟩
  have HS1 : Hid (Sl E64 22 w1 B (.slice (some ⟨g, 0, none⟩) (L.length + 1) cap) (L ++ [0])) := hS1
  clear hS1 hg1 hloc1 hcell hfz hop
  go_enter Yba.func26, Yba.ntmps26
  go_wp2_with (at_builtin; refine wpList_append_run 24 hrun rfl _ _ rfl rfl rfl rfl ?_)
  have i0 : IntKind.i64.wrap ((i : Int) + 1) = ((i + 1 : Nat) : Int) := by rw [IntKind.wrap_i64]; omega
  have hcap : L.length + 1 ≤ cap := by
    rcases HS1.out.2 with ⟨h, _⟩ | ⟨g', cap', cur, h, _, _, hn, _⟩
    · simp at h
    · simp at h; omega
  have i2 : 0 ≤ (i : Int) + 1 := by omega
  have i3 : ¬ cap = i := by omega
  have i4 : (i : Int) ≤ (L.length : Int) + 1 := by omega
  have hcopy : ∃ (o : Nat) (w2 : World) (y : Int), (if cap = i + 1 then some (⟨g, 0, none⟩ : Addr) else some ⟨g, i + 1, none⟩) = some ⟨g, o, none⟩ ∧
      (Builtin.copy_ #[24, 24] 3 #[.slice (some ⟨g, o, none⟩) (L.length - i) (cap - (i + 1)), .slice (some ⟨g, i, none⟩) (L.length + 1 - i) (cap - i)]).run Yba.prog w1.drew = .ok (goInt (L.length - i : Nat)) w2 ∧
      Sl E64 22 w2 B (.slice (some ⟨g, 0, none⟩) (L.length + 1) cap) (L.take i ++ y :: L.drop i) ∧ w1.grownBy w2 (some g) := by
    have hd : Sl E64 22 w1.drew B (.slice (some ⟨g, 0, none⟩) (L.length + 1) cap) (L ++ [0]) := HS1.out
    by_cases hc : cap = i + 1
    · obtain ⟨w2, y, hr, hs, hg⟩ := insert_copy (T := 24) (ty := 3) (o := 0) (dcap := cap - (i + 1)) (scap := cap - i) (.inr ⟨by omega, rfl⟩) hd hi Yba.underlying24 size22
      refine ⟨0, w2, y, by rw [if_pos hc], ?_, hs, ⟨hg.os, hg.tape, hg.output, hg.size, hg.block⟩⟩
      simpa [E64] using hr
    · obtain ⟨w2, y, hr, hs, hg⟩ := insert_copy (T := 24) (ty := 3) (o := (i + 1) * 1) (dcap := cap - (i + 1)) (scap := cap - i) (.inl rfl) hd hi Yba.underlying24 size22
      refine ⟨i + 1, w2, y, by rw [if_neg hc], ?_, hs, ⟨hg.os, hg.tape, hg.output, hg.size, hg.block⟩⟩
      simpa [E64] using hr
  obtain ⟨o, w2, y, hif, hrun2, hS2, hg2⟩ := hcopy
  have HS2 : Hid (Sl E64 22 w2 B (.slice (some ⟨g, 0, none⟩) (L.length + 1) cap) (L.take i ++ y :: L.drop i) ∧ w1.grownBy w2 (some g)) := ⟨hS2, hg2⟩
  obtain ⟨_, _, hv2, hop2⟩ := hS2.open
  obtain ⟨g2, hg2e, _, _, _, hfz2, hcell2⟩ := hop2 (by simp; omega)
  have hgg : g2 = g := by
    have hl2 : (L.take i ++ y :: L.drop i).length = L.length + 1 := by simp; omega
    rw [hg2e] at hv2
    simp at hv2
    exact hv2.1.symm
  subst hgg
  have c2 := hcell2 i y (by rw [List.getElem?_append_right (by simp; omega), List.length_take, Nat.min_eq_left hi, Nat.sub_self]; rfl) 0 _ rfl
  have f2 := hfz2 i
  simp [E64] at c2
  clear hS2 hg2 hop2 hcell2 hfz2 hv2 hg2e
  refine region_tail2 7 (by kernel_rfl) ?_
  intro KK hKK
  simp only [List.take_succ_cons, List.take_zero]
  repeat (refine wpStill_want rfl (fun K hK => ?_); go_simp; refine hK _ ?_; clear hK K)
  refine wpStill_nil ?_
  refine hKK _ ?_
  clear hKK KK
  simp only [List.drop_succ_cons, List.drop_zero]
  refine wpList_copy_run 24 3 hrun2 rfl _ _ rfl rfl rfl rfl ?_
  go_wp2_with fail
  go_ret
  refine ⟨_, rfl, ?_, ?_, HG1.out.2⟩
  · have h3 := owns_setCell (k := i) (u := .int .u64 x) (show w2.ownsRow B 22 1 (.slice (some ⟨g2, 0, none⟩) (L.length + 1) cap) (L.length + 1) (E64.flat (L.take i ++ y :: L.drop i)) from by
      have := HS2.out.1
      unfold Sl at this
      rwa [show (L.take i ++ y :: L.drop i).length = L.length + 1 by simp; omega] at this)
    unfold Sl
    rw [show (L.take i ++ x :: L.drop i).length = L.length + 1 by simp; omega]
    have he : E64.flat (L.take i ++ x :: L.drop i) = (E64.flat (L.take i ++ y :: L.drop i)).set i (.int .u64 x) := by
      have e1 : (E64.flat (L.take i)).length = i := by rw [flat_len]; simp [E64]; omega
      rw [flat_append, flat_append]
      have e2 : ∀ a : Int, E64.flat (a :: L.drop i) = .int .u64 a :: E64.flat (L.drop i) := fun a => rfl
      rw [e2, e2]
      conv => rhs; arg 2; rw [← e1]
      rw [set_mid]
    rw [he]
    exact h3
  · have hb : v.ownBlock = some g2 ∨ w.heap.size ≤ g2 := by
      rcases HG1.out.2 with h | ⟨g', h, hl⟩
      · exact .inl h.symm
      · simp [Value.ownBlock] at h; subst h; exact .inr hl
    exact grown_into (grown_into HG1.out.1 HS2.out.2 hb) (grown_setCell _) hb

/-- A kept message: its seq, its bytes' slice, who sent it. -/
structure KM where
  seq : Int
  ao : Option Addr
  len : Nat
  cap : Nat
  frm : Int
deriving DecidableEq
def KM.val (k : KM) : Value := .agg #[.int .u64 k.seq, .slice k.ao k.len k.cap, .int .u64 k.frm]
def KM.zero : KM := ⟨0, none, 0, 0, 0⟩
/-- A []keptMessage's element. -/
def EK : Enc KM := ⟨3, fun k => [.int .u64 k.seq, .slice k.ao k.len k.cap, .int .u64 k.frm], fun _ => rfl, fun _ u hu => by simp at hu; rcases hu with rfl | rfl | rfl <;> rfl⟩
theorem info63 : (Yba.prog.info? 63).map (fun i => (i.zero, i.size, i.bytes)) = some (some (.agg #[.int .u64 0, .slice none 0 0, .int .u64 0]), 3, 40) := by kernel_rfl
theorem size63 : (Yba.prog.info? 63).map (·.size) = some 3 := by kernel_rfl

theorem set_mid3 (A : List Value) (b c d u v w : Value) (C : List Value) : (((A ++ b :: c :: d :: C).set A.length u).set (A.length + 1) v).set (A.length + 2) w = A ++ u :: v :: w :: C := by
  rw [List.set_append_right _ _ (Nat.le_refl _), List.set_append_right _ _ (by omega), List.set_append_right _ _ (by omega)]
  simp

set_option maxRecDepth 100000 in
set_option maxHeartbeats 1000000 in
/-- slice.Insert[keptMessage]. -/
theorem insertK_any (L : List KM) (i : Nat) (x : KM) (B : Nat) (v : Value) (w : World) (hL : Sl EK 63 w B v L) (hB : B ≤ w.heap.size) (hi : i ≤ L.length) (hn : L.length < 100000) :
    Calls Yba.prog 45 #[v, .int .i64 i, x.val] w fun e w' => InsP EK 63 w B v (L.take i ++ x :: L.drop i) e w' := by
  obtain ⟨wb, hwb⟩ : ∃ wb, wb = (w.alloc (.cells #[.int .u64 x.seq, .slice x.ao x.len x.cap, .int .u64 x.frm] 63)).alloc (.cells #[.int .u64 0, .slice none 0 0, .int .u64 0] 63) := ⟨_, rfl⟩
  have hbb : Below w.heap.size w wb := by subst hwb; exact nb (nb (Below.refl _ _) (Nat.le_refl _) _) (Nat.le_refl _) _
  have hsz : wb.heap.size = w.heap.size + 1 + 1 := by subst hwb; simp
  have x0 : wb.cell? ⟨w.heap.size, 0, none⟩ = some (.int .u64 x.seq) := by subst hwb; simp [go_sem]
  have x1 : wb.cell? ⟨w.heap.size, 1, none⟩ = some (.slice x.ao x.len x.cap) := by subst hwb; simp [go_sem]
  have x2 : wb.cell? ⟨w.heap.size, 2, none⟩ = some (.int .u64 x.frm) := by subst hwb; simp [go_sem]
  obtain ⟨v1, w1, hrun, hS1, hg1, hloc1⟩ := (hL.later hbb).push (T := 68) Yba.underlying68 info63 rfl (by decide) (by omega) (by omega) (by decide) KM.zero #[.int .u64 0, .slice none 0 0, .int .u64 0] rfl
  obtain ⟨ao, cap, hv1, hop⟩ := hS1.open
  obtain ⟨g, rfl, hBg, hgl, hob, hfz, hcell⟩ := hop (by simp)
  have hlen : (L ++ [KM.zero]).length = L.length + 1 := by simp
  rw [hlen] at hv1
  subst hv1
  have q0 := hg1.cell x0 (fun e => by have := (hL.lt e.symm).2; simp at this)
  have q1 := hg1.cell x1 (fun e => by have := (hL.lt e.symm).2; simp at this)
  have q2 := hg1.cell x2 (fun e => by have := (hL.lt e.symm).2; simp at this)
  have hgw : ¬ g = w.heap.size := by
    rcases hloc1 with h | ⟨g', h, hl⟩
    · have := (hL.lt (g := g) h.symm).2; omega
    · simp [Value.ownBlock] at h; subst h; omega
  rw [hsz, hwb] at hrun
  have hloc1 : Loc w v (.slice (some ⟨g, 0, none⟩) (L.length + 1) cap) := hloc1.imp id (fun ⟨g', h, hl⟩ => ⟨g', h, by omega⟩)
  have hg1 : w.grownBy w1 v.ownBlock := ⟨hg1.os.trans hbb.os, hg1.tape.trans hbb.tape, hg1.output.trans hbb.output, Nat.le_trans hbb.size hg1.size, fun k hk hr => (hg1.block k (by omega) hr).trans (hbb.block k hk)⟩
  clear hbb hsz x0 x1 x2 hwb
  have HG1 : Hid (w.grownBy w1 v.ownBlock ∧ Loc w v (.slice (some ⟨g, 0, none⟩) (L.length + 1) cap)) := ⟨hg1, hloc1⟩
  have HS1 : Hid (Sl EK 63 w1 B (.slice (some ⟨g, 0, none⟩) (L.length + 1) cap) (L ++ [KM.zero])) := hS1
  clear hS1 hg1 hloc1 hcell hfz hop
  simp only [KM.val]
  go_enter Yba.func45, Yba.ntmps45
  go_wp2_with (at_builtin; refine wpList_append_run 68 hrun rfl _ _ rfl rfl rfl rfl ?_)
  have i0 : IntKind.i64.wrap ((i : Int) + 1) = ((i + 1 : Nat) : Int) := by rw [IntKind.wrap_i64]; omega
  have hcap : L.length + 1 ≤ cap := by
    rcases HS1.out.2 with ⟨h, _⟩ | ⟨g', cap', cur, h, _, _, hn, _⟩
    · simp at h
    · simp at h; omega
  have i2 : 0 ≤ (i : Int) + 1 := by omega
  have i3 : ¬ cap = i := by omega
  have i4 : (i : Int) ≤ (L.length : Int) + 1 := by omega
  have hcopy : ∃ (o : Nat) (w2 : World) (y : KM), (if cap = i + 1 then some (⟨g, 0, none⟩ : Addr) else some ⟨g, (i + 1) * 3, none⟩) = some ⟨g, o, none⟩ ∧
      (Builtin.copy_ #[68, 68] 3 #[.slice (some ⟨g, o, none⟩) (L.length - i) (cap - (i + 1)), .slice (some ⟨g, i * 3, none⟩) (L.length + 1 - i) (cap - i)]).run Yba.prog w1.drew = .ok (goInt (L.length - i : Nat)) w2 ∧
      Sl EK 63 w2 B (.slice (some ⟨g, 0, none⟩) (L.length + 1) cap) (L.take i ++ y :: L.drop i) ∧ w1.grownBy w2 (some g) := by
    have hd : Sl EK 63 w1.drew B (.slice (some ⟨g, 0, none⟩) (L.length + 1) cap) (L ++ [KM.zero]) := HS1.out
    by_cases hc : cap = i + 1
    · obtain ⟨w2, y, hr, hs, hg⟩ := insert_copy (T := 68) (ty := 3) (o := 0) (dcap := cap - (i + 1)) (scap := cap - i) (.inr ⟨by omega, rfl⟩) hd hi Yba.underlying68 size63
      refine ⟨0, w2, y, by rw [if_pos hc], ?_, hs, ⟨hg.os, hg.tape, hg.output, hg.size, hg.block⟩⟩
      simpa [EK] using hr
    · obtain ⟨w2, y, hr, hs, hg⟩ := insert_copy (T := 68) (ty := 3) (o := (i + 1) * 3) (dcap := cap - (i + 1)) (scap := cap - i) (.inl rfl) hd hi Yba.underlying68 size63
      refine ⟨(i + 1) * 3, w2, y, by rw [if_neg hc], ?_, hs, ⟨hg.os, hg.tape, hg.output, hg.size, hg.block⟩⟩
      simpa [EK] using hr
  obtain ⟨o, w2, y, hif, hrun2, hS2, hg2⟩ := hcopy
  have HS2 : Hid (Sl EK 63 w2 B (.slice (some ⟨g, 0, none⟩) (L.length + 1) cap) (L.take i ++ y :: L.drop i) ∧ w1.grownBy w2 (some g)) := ⟨hS2, hg2⟩
  obtain ⟨_, _, hv2, hop2⟩ := hS2.open
  obtain ⟨g2, hg2e, _, _, _, hfz2, hcell2⟩ := hop2 (by simp; omega)
  have hgg : g2 = g := by
    have hl2 : (L.take i ++ y :: L.drop i).length = L.length + 1 := by simp; omega
    rw [hg2e] at hv2
    simp at hv2
    exact hv2.1.symm
  subst hgg
  have hyi : (L.take i ++ y :: L.drop i)[i]? = some y := by rw [List.getElem?_append_right (by simp; omega), List.length_take, Nat.min_eq_left hi, Nat.sub_self]; rfl
  have c2 := hcell2 i y hyi 0 _ rfl
  have c3 := hcell2 i y hyi 1 _ rfl
  have c4 := hcell2 i y hyi 2 _ rfl
  have f2 := hfz2 (i * 3)
  have f3 := hfz2 (i * 3 + 1)
  have f4 := hfz2 (i * 3 + 2)
  simp [EK] at c2 c3 c4
  have p0 := hg2.cell q0 (fun e => hgw (by injection e with e; exact e.symm))
  have p1 := hg2.cell q1 (fun e => hgw (by injection e with e; exact e.symm))
  have p2 := hg2.cell q2 (fun e => hgw (by injection e with e; exact e.symm))
  clear hyi q0 q1 q2
  clear hS2 hg2 hop2 hcell2 hfz2 hv2 hg2e
  refine region_tail2 7 (by kernel_rfl) ?_
  intro KK hKK
  simp only [List.take_succ_cons, List.take_zero]
  repeat (refine wpStill_want rfl (fun K hK => ?_); go_simp; refine hK _ ?_; clear hK K)
  refine wpStill_nil ?_
  refine hKK _ ?_
  clear hKK KK
  simp only [List.drop_succ_cons, List.drop_zero]
  refine wpList_copy_run 68 3 hrun2 rfl _ _ rfl rfl rfl rfl ?_
  go_wp2_with fail
  go_ret
  refine ⟨_, rfl, ?_, ?_, HG1.out.2⟩
  · have h3 := owns_setCell (k := i * 3 + 2) (u := .int .u64 x.frm) (owns_setCell (k := i * 3 + 1) (u := .slice x.ao x.len x.cap) (owns_setCell (k := i * 3) (u := .int .u64 x.seq) (show w2.ownsRow B 63 3 (.slice (some ⟨g2, 0, none⟩) (L.length + 1) cap) (L.length + 1) (EK.flat (L.take i ++ y :: L.drop i)) from by
      have := HS2.out.1
      unfold Sl at this
      rwa [show (L.take i ++ y :: L.drop i).length = L.length + 1 by simp; omega] at this)))
    unfold Sl
    rw [show (L.take i ++ x :: L.drop i).length = L.length + 1 by simp; omega]
    have he : EK.flat (L.take i ++ x :: L.drop i) = (((EK.flat (L.take i ++ y :: L.drop i)).set (i * 3) (.int .u64 x.seq)).set (i * 3 + 1) (.slice x.ao x.len x.cap)).set (i * 3 + 2) (.int .u64 x.frm) := by
      have e1 : (EK.flat (L.take i)).length = i * 3 := by rw [flat_len]; simp [EK]; omega
      rw [flat_append, flat_append]
      have e2 : ∀ a : KM, EK.flat (a :: L.drop i) = .int .u64 a.seq :: .slice a.ao a.len a.cap :: .int .u64 a.frm :: EK.flat (L.drop i) := fun a => rfl
      rw [e2, e2, ← e1, set_mid3]
    rw [he]
    exact h3
  · have hb : v.ownBlock = some g2 ∨ w.heap.size ≤ g2 := by
      rcases HG1.out.2 with h | ⟨g', h, hl⟩
      · exact .inl h.symm
      · simp [Value.ownBlock] at h; subst h; exact .inr hl
    exact grown_into (grown_into (grown_into (grown_into HG1.out.1 HS2.out.2 hb) (grown_setCell _) hb) (grown_setCell _) hb) (grown_setCell _) hb
end Go.Proofs.Ybulkdkqw.lawS5586AWhole
