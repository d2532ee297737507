import Derived.Test.YbulkdkrkAKeep
import Derived.Test.YbulkdkrkAMerge
namespace Go.Proofs.Ybulkdkrk.lawS5587AWhole
open Go.ChangeShapes Go.WideShapes Go.ChangeAt Go.RowKit

/-- One more, going round. -/
def inc (x : Int) : Int := IntKind.u64.wrap (x + 1)

theorem Led.drewN {w : World} {b bi bs bl bt ba n : Nat} {I S L T A : Nat → Int} {sd rs gr nd r2 g2 : Int} {ok : Bool} (h : Led w b bi bs bl bt ba n I S L T A sd rs gr nd r2 g2 ok) (k : Nat) : Led (w.drewN k) b bi bs bl bt ba n I S L T A sd rs gr nd r2 g2 ok := h.of (fun _ _ => rfl)

set_option maxRecDepth 100000 in
set_option maxHeartbeats 4000000 in
theorem take_any (b bi bs bl bt ba n : Nat) (I S L T A : Nat → Int) (sd rs gr nd r2 g2 : Int) (ok : Bool) (c ci cs cl ct ca m : Nat) (J TS TL TT TA : Nat → Int) (sd' rs' gr' nd' r2' g2' : Int) (ok' : Bool) (w : World) (hn : n ≤ 1024) (hm : m ≤ 1024)
    (hI : ∀ i j, i < j → j < n → I i < I j) (hJ : ∀ i j, i < j → j < m → J i < J j)
    (hL : Led w b bi bs bl bt ba n I S L T A sd rs gr nd r2 g2 ok) (hO : Led w c ci cs cl ct ca m J TS TL TT TA sd' rs' gr' nd' r2' g2' ok')
    (hap : ∀ g, g ∈ [c, ci, cs, cl, ct, ca] → g ∉ [b, bs, bl]) :
    Calls Yba.prog 15 #[.pointer (some ⟨b, 0, none⟩), .pointer (some ⟨c, 0, none⟩), .bool false] w fun e w' => e = .returned (.tuple #[]) ∧ Chg [b, bs, bl] w w' ∧
      Led w' b bi bs bl bt ba n I (mS I J S TS m) (mL I J S TS L TL m) T A sd (mR inc I J S TS m rs n) gr nd r2 g2 ok := by
  obtain ⟨c0, c1, c2, _⟩ := hL.cells
  obtain ⟨d0, d1, d2, _⟩ := hO.cells
  have HL : Hid (Led w b bi bs bl bt ba n I S L T A sd rs gr nd r2 g2 ok) := hL
  have HO : Hid (Led w c ci cs cl ct ca m J TS TL TT TA sd' rs' gr' nd' r2' g2' ok') := hO
  have HI : Hid (∀ i j, i < j → j < n → I i < I j) := hI
  have HJ : Hid (∀ i j, i < j → j < m → J i < J j) := hJ
  have HA : Hid (∀ g, g ∈ [c, ci, cs, cl, ct, ca] → g ∉ [b, bs, bl]) := hap
  clear hL hO hI hJ hap
  have i1 : (0 : Int) ≤ (n : Int) := by omega
  have i2 : (0 : Int) ≤ (m : Int) := by omega
  go_enter Yba.func15, Yba.ntmps15
  go_wp2
  go_quiet (fail)
  go_wp2
  go_quiet (fail)
  go_wp2
  clear c0 c1 c2 d0 d1 d2
  go_loopw [10, 11] (fun x y wr => ∃ i j : Nat, i ≤ n ∧ j ≤ m ∧ x = .int .i64 i ∧ y = .int .i64 j ∧ Past I J n i j ∧ Chg [b, bs, bl] w wr ∧ Led wr b bi bs bl bt ba n I (mix (mS I J S TS m) S i) (mix (mL I J S TS L TL m) L i) T A sd (mR inc I J S TS m rs i) gr nd r2 g2 ok) (fun x y _ => (n - (intOf x).toNat) + (m - (intOf y).toNat))
  case atStart =>
    refine ⟨0, 0, Nat.zero_le _, Nat.zero_le _, rfl, rfl, past_zero, ((Chg.refl _ _).drewN _).drewN _, ?_⟩
    exact ((HL.out.drewN _).drewN _).congr (fun _ _ => rfl) (fun _ _ => by simp [mix]) (fun _ _ => by simp [mix]) (fun _ _ => rfl) (fun _ _ => rfl)
  case round =>
    obtain ⟨i, j, hi, hj, rfl, rfl, hp, hc, hLr⟩ := hrel
    have HP : Hid (Past I J n i j) := hp
    have HC : Hid (Chg [b, bs, bl] w wr) := hc
    have HLr : Hid (Led wr b bi bs bl bt ba n I (mix (mS I J S TS m) S i) (mix (mL I J S TS L TL m) L i) T A sd (mR inc I J S TS m rs i) gr nd r2 g2 ok) := hLr
    have hOr := HO.out.chg hc HA.out
    clear hp hc
    by_cases hin : i < n
    · by_cases hjm : j < m
      · have a1 := hLr.ids.cell hin
        have a2 := hOr.ids.cell hjm
        have a3 := hLr.stamp.cell hin
        have a4 := hOr.stamp.cell hjm
        have a5 := hLr.load.cell hin
        have a6 := hOr.load.cell hjm
        have f3 := hLr.stamp.frozen i
        have f5 := hLr.load.frozen i
        have f6 := hLr.free 6
        obtain ⟨c0, c1, c2, c3, c4, c5, c6, _⟩ := hLr.cells
        obtain ⟨d0, d1, d2, _⟩ := hOr.cells
        simp only [mix, Nat.lt_irrefl, if_false] at a3 a5
        have hnd := hLr.nodup
        simp at hnd
        have e1 : ¬ b = bs := hnd.1.2.1
        have e2 : ¬ b = bl := hnd.1.2.2.1
        have e3 : ¬ bs = bl := hnd.2.2.1.1
        have e1' : ¬ bs = b := fun e => e1 e.symm
        have e2' : ¬ bl = b := fun e => e2 e.symm
        have e3' : ¬ bl = bs := fun e => e3 e.symm
        have k1 : (i : Int) < (n : Int) := by omega
        have k0 : (0 : Int) ≤ (i : Int) := by omega
        have k3 : (j : Int) < (m : Int) := by omega
        have k2 : (0 : Int) ≤ (j : Int) := by omega
        have hapx := HA.out
        simp at hapx
        have z1 : ¬ cl = bs := hapx.2.2.2.1.2.1
        have z2 : ¬ cl = bl := hapx.2.2.2.1.2.2
        have z3 : ¬ c = bs := hapx.1.2.1
        have z4 : ¬ c = bl := hapx.1.2.2
        have z1' : ¬ bs = cl := fun e => z1 e.symm
        have z2' : ¬ bl = cl := fun e => z2 e.symm
        have z3' : ¬ bs = c := fun e => z3 e.symm
        have z4' : ¬ bl = c := fun e => z4 e.symm
        clear hLr hOr hnd hapx
        rcases Int.lt_trichotomy (I i) (J j) with h | h | h
        · have hb1 : (I i == J j) = false := by simp; omega
          have H : Hid (I i < J j) := h
          go_wp2
          go_quiet (fail)
          go_wp2
          go_roundw
          case rel =>
            have hmt := miss_mt HP.out hin HJ.out H.out
            refine ⟨i + 1, j, by omega, hj, by go_num, rfl, past_low HP.out, HC.out.drewN _, ?_⟩
            rw [mR_none hmt]
            exact (HLr.out.drewN _).congr (fun _ _ => rfl) (fun p _ => by rw [mix_succ]; split <;> simp_all [mS_none hmt, mix]) (fun p _ => by rw [mix_succ]; split <;> simp_all [mL_none hmt, mix]) (fun _ _ => rfl) (fun _ _ => rfl)
          case measure => simp [intOf]; omega
        · have hb1 : (I i == J j) = true := by simp [h]
          have H : Hid (I i = J j) := h
          clear h
          by_cases hst : S i < TS j
          · go_wp2
            go_quiet (fail)
            go_wp2
            go_quiet (fail)
            go_wp2
            go_region
            all_goals go_wp2
            go_roundw
            case rel =>
              have hmt := hit_mt HP.out hin hjm H.out
              refine ⟨i + 1, j + 1, by omega, by omega, by go_num, by go_num, past_hit HP.out HI.out H.out, (((HC.out.drewN _).setCell (by simp) _).setCell (by simp) _).setCell (by simp) _, ?_⟩
              rw [mR_yes hmt hst]
              exact ((((HLr.out.drewN _).setS i _).setL i _).setRaised _).congr (fun _ _ => rfl) (fun p _ => by rw [mix_succ, mS_yes hmt hst]; rfl) (fun p _ => by rw [mix_succ, mL_yes hmt hst]; rfl) (fun _ _ => rfl) (fun _ _ => rfl)
            case measure => simp [intOf]; omega
          · go_wp2
            go_quiet (fail)
            go_wp2
            go_quiet (fail)
            go_wp2
            go_roundw
            case rel =>
              have hmt := hit_mt HP.out hin hjm H.out
              have hst : ¬ S i < TS j := by omega
              refine ⟨i + 1, j + 1, by omega, by omega, by go_num, by go_num, past_hit HP.out HI.out H.out, HC.out.drewN _, ?_⟩
              rw [mR_no hmt hst]
              exact (HLr.out.drewN _).congr (fun _ _ => rfl) (fun p _ => by rw [mix_succ]; split <;> simp_all [mS_no hmt hst, mix]) (fun p _ => by rw [mix_succ]; split <;> simp_all [mL_no hmt hst, mix]) (fun _ _ => rfl) (fun _ _ => rfl)
            case measure => simp [intOf]; omega
        · have hb1 : (I i == J j) = false := by simp; omega
          have H : Hid (J j < I i) := h
          have h' : ¬ I i < J j := by omega
          clear h
          go_wp2
          go_quiet (fail)
          go_wp2
          go_roundw
          case rel => exact ⟨i, j + 1, hi, by omega, rfl, by go_num, past_high HP.out HI.out H.out, HC.out.drewN _, HLr.out.drewN _⟩
          case measure => simp [intOf]; omega
      · have hjm' : j = m := by omega
        subst hjm'
        clear hLr hOr
        go_wp2
        go_end0
        have hend := past_end HP.out
        refine ⟨rfl, HC.out, ?_⟩
        rw [mR_end hend n hi (Nat.le_refl _)]
        refine HLr.out.congr (fun _ _ => rfl) (fun p hp => ?_) (fun p hp => ?_) (fun _ _ => rfl) (fun _ _ => rfl)
        · unfold mix; split
          · rfl
          · rw [mS_none (hend p (by omega) hp)]
        · unfold mix; split
          · rfl
          · rw [mL_none (hend p (by omega) hp)]
    · have hin' : i = n := by omega
      subst hin'
      clear hLr hOr
      go_wp2
      go_end0
      exact ⟨rfl, HC.out, HLr.out.congr (fun _ _ => rfl) (fun p hp => by simp [mix, hp]) (fun p hp => by simp [mix, hp]) (fun _ _ => rfl) (fun _ _ => rfl)⟩
end Go.Proofs.Ybulkdkrk.lawS5587AWhole
