import Derived.Test.YbulkdkrkCBuild
import Derived.Deep.CutBlock
namespace Go.Proofs.Ybulkdkrk.lawS5587CWhole
open Go.ChangeShapes Go.WideShapes Go.ChangeAt Go.RowKit Go.Proofs.Ybulkdkrk.lawS5587AWhole

set_option maxRecDepth 100000 in
set_option maxHeartbeats 1000000 in
/-- zzs5587cmodel. -/
theorem model_any (ID : Nat → Int) (X : Int) (l : Nat) (pred : H) (hs S P : List H) (B : Nat) (vH vS vP : Value) (w : World) (hH : Hs w B vH hs) (hS : Hs w B vS S) (hP : Hs w B vP P) (hn : hs.length ≤ 65536) (hi : Ids w ID (pred :: (S ++ P) ++ hs)) :
    Calls Yba.prog 11 #[.int .u64 X, .int .i64 l, vH, pred.val, vS, vP] w fun e w' => BackL ((dedup ID X l hs).map (findH ID (pred :: (S ++ P)))) w e w' := by
  obtain ⟨aH, cH, gH, rfl, oH⟩ := hH.open
  have HO : Hid (0 < hs.length → aH = some ⟨gH, 0, none⟩ ∧ B ≤ gH ∧ Part w gH cH hs) := oH
  have HI : Hid (Ids w ID (pred :: (S ++ P) ++ hs)) := hi
  have HHS : Hid (Hs w B vS S) := hS
  have HHP : Hid (Hs w B vP P) := hP
  clear hi oH hH hS hP
  simp only [H.val]
  go_enter Yba.func11, Yba.ntmps11
  go_upto_block 0 with fail
  generalize hw1 : World.alloc _ _ = w1
  have HB1 : Hid (Boxed w w1 pred) := Boxed.of hw1
  clear hw1
  go_cut [13] (fun v wz => Hs wz (w.heap.size + 1) v (dedup ID X l hs) ∧ Below (w.heap.size + 1) w1 wz)
  case first =>
    go_wp2_with fail
    go_loopw [13, 24] (fun v i wr => ∃ k : Nat, k ≤ hs.length ∧ i = .int .i64 k ∧ Hs wr (w.heap.size + 1) v ((hs.take k).foldl (step ID X l) []) ∧ Below (w.heap.size + 1) w1 wr) (fun _ i _ => hs.length - (intOf i).toNat)
    case atStart => exact ⟨0, Nat.zero_le _, rfl, Hs.nil _ _, Below.refl _ _⟩
    case round =>
      obtain ⟨wo, rfl⟩ : ∃ wo, wo = wr := ⟨_, rfl⟩
      obtain ⟨k, hk, rfl, hv, hb⟩ := hrel
      have HW : Hid (Below (w.heap.size + 1) w1 wo) := hb
      have HV : Hid (Hs wo (w.heap.size + 1) u13 ((hs.take k).foldl (step ID X l) [])) := hv
      have HBw : Hid (Below w.heap.size w wo) := HB1.out.below.trans (hb.mono (by omega))
      have lz : w.heap.size + 1 ≤ wo.heap.size := by have := hb.size; have := HB1.out.size; omega
      clear hb hv
      by_cases hlt : k < hs.length
      · obtain ⟨rfl, hBg, hpart⟩ := HO.out (by omega)
        obtain ⟨h, hg⟩ : ∃ g, hs[k]? = some g := ⟨_, List.getElem?_eq_getElem hlt⟩
        obtain ⟨c0, c1, c2⟩ := hpart.cell hg
        have HG : Hid (hs[k]? = some h ∧ k < hs.length) := ⟨hg, hlt⟩
        have kn := HI.out h (by have := List.mem_of_getElem? hg; simp [this])
        have gi := kn.cell
        have lg : h.c < w.heap.size := kn.lt
        have lgr : h.c < wo.heap.size := by omega
        have d0 := (HBw.out.cell (p := ⟨gH, k * 3, none⟩) hpart.lt).trans c0
        have d1 := (HBw.out.cell (p := ⟨gH, k * 3 + 1, none⟩) hpart.lt).trans c1
        have d2 := (HBw.out.cell (p := ⟨gH, k * 3 + 2, none⟩) hpart.lt).trans c2
        have dg := (HBw.out.cell (p := ⟨h.c, 0, none⟩) (by exact lg)).trans gi
        clear hpart c0 c1 c2 gi hg kn
        by_cases hX : ID h.c = X
        · have HX : Hid (ID h.c = X) := hX
          go_wp2_with fail
          go_roundw
          case rel =>
            refine ⟨k + 1, by have := HG.out.2; omega, by go_num, ?_, nb HW.out (by have := HB1.out.size; omega) _⟩
            rw [fold_take_succ HG.out.1, show step ID X l ((hs.take k).foldl (step ID X l) []) h = (hs.take k).foldl (step ID X l) [] by unfold step; rw [if_pos (.inl HX.out)]]
            exact HV.out.later (nb (Below.refl _ _) (Nat.le_refl _) _)
          case measure => have := HG.out.2; simp [intOf]; omega
        · have HX : Hid (¬ ID h.c = X) := hX
          have hXb : (ID h.c == X) = false := by simpa using hX
          clear hX
          obtain ⟨out, hout⟩ : ∃ out, (hs.take k).foldl (step ID X l) [] = out := ⟨_, rfl⟩
          have HOut : Hid ((hs.take k).foldl (step ID X l) [] = out) := hout
          rw [hout] at HV
          have lo : out.length ≤ 65536 := by have := fold_take_len (ID := ID) (X := X) (l := l) (hs := hs) (k := k); rw [hout] at this; omega
          have HIo : Hid (Ids w ID out) := HI.out.sub (fun x hx => by rw [← hout] at hx; have := dedup_sub x hx; simp [this])
          clear hout
          obtain ⟨ao, co, go, rfl, oo⟩ := HV.out.open
          have HOO : Hid (0 < out.length → ao = some ⟨go, 0, none⟩ ∧ w.heap.size + 1 ≤ go ∧ Part wo go co out) := oo
          clear oo
          go_wp2_with fail
          generalize hwx : World.alloc _ _ = wx
          obtain ⟨hbx, szx, e0, e1, e2⟩ := Boxed.of hwx
          clear hwx
          have HBX : Hid (Below wo.heap.size wo wx) := hbx
          have HE : Hid (wx.cell? ⟨wo.heap.size, 0, none⟩ = some (.int .i64 h.node) ∧ wx.cell? ⟨wo.heap.size, 1, none⟩ = some (.pointer (some ⟨h.c, 0, none⟩)) ∧ wx.cell? ⟨wo.heap.size, 2, none⟩ = some (.int .i64 h.links)) := ⟨e0, e1, e2⟩
          have HDG : Hid (wo.cell? ⟨h.c, 0, none⟩ = some (.int .u64 (ID h.c))) := dg
          clear hbx e0 e1 e2 d0 d1 d2 dg
          go_loopw [16, 38] (fun d i wq => d = .bool false ∧ ∃ m : Nat, m ≤ out.length ∧ i = .int .i64 m ∧ Below (wo.heap.size + 1) wx wq ∧ ∀ i x, i < m → out[i]? = some x → (ID x.c == ID h.c) = false) (fun _ i _ => out.length - (intOf i).toNat)
          case atStart => exact ⟨rfl, 0, Nat.zero_le _, rfl, Below.refl _ _, fun i x hi => by omega⟩
          case round =>
            obtain ⟨rfl, m, hm, rfl, hb, hno⟩ := hrel
            have hbo : Below wo.heap.size wo wr := HBX.out.trans (hb.mono (by omega))
            have hbw : Below w.heap.size w wr := HBw.out.trans (hbo.mono (by omega))
            have q1 : wr.cell? ⟨wo.heap.size, 1, none⟩ = some (.pointer (some ⟨h.c, 0, none⟩)) := (hb.cell (by simp)).trans HE.out.2.1
            have j1 : wr.cell? ⟨h.c, 0, none⟩ = some (.int .u64 (ID h.c)) := (hbo.cell (by exact lgr)).trans HDG.out
            have HN : Hid (∀ i x, i < m → out[i]? = some x → (ID x.c == ID h.c) = false) := hno
            have lzr : wo.heap.size + 1 ≤ wr.heap.size := by have := hb.size; omega
            have HHb : Hid (Below (wo.heap.size + 1) wx wr) := hb
            have HHbo : Hid (Below wo.heap.size wo wr) := hbo
            have HHbw : Hid (Below w.heap.size w wr) := hbw
            have HW1 : Hid (Below (w.heap.size + 1) w1 wr) := HW.out.trans (hbo.mono lz)
            clear hno hb hbo hbw
            by_cases hltm : m < out.length
            · obtain ⟨rfl, hgo, hpart⟩ := HOO.out (by omega)
              obtain ⟨g, hg⟩ : ∃ g, out[m]? = some g := ⟨_, List.getElem?_eq_getElem hltm⟩
              obtain ⟨c0, c1, c2⟩ := hpart.cell hg
              have HGo : Hid (out[m]? = some g ∧ m < out.length) := ⟨hg, hltm⟩
              have kn := HIo.out g (List.mem_of_getElem? hg)
              have lgc : g.c < w.heap.size := kn.lt
              have dg := (HHbw.out.cell (p := ⟨g.c, 0, none⟩) (by exact lgc)).trans kn.cell
              have d0 := (HHbo.out.cell (p := ⟨go, m * 3, none⟩) hpart.lt).trans c0
              have d1 := (HHbo.out.cell (p := ⟨go, m * 3 + 1, none⟩) hpart.lt).trans c1
              have d2 := (HHbo.out.cell (p := ⟨go, m * 3 + 2, none⟩) hpart.lt).trans c2
              clear hpart c0 c1 c2 hg kn
              go_wp2_with fail
              generalize hwy : World.alloc _ _ = wy
              obtain ⟨hby, szy, e0, e1, e2⟩ := Boxed.of hwy
              clear hwy
              have q1' := (hby.cell (p := ⟨wo.heap.size, 1, none⟩) (by simp; omega)).trans q1
              have j1' := (hby.cell (p := ⟨h.c, 0, none⟩) (by simp; omega)).trans j1
              have dg' := (hby.cell (p := ⟨g.c, 0, none⟩) (by simp; omega)).trans dg
              have HY : Hid (Below (wo.heap.size + 1) wx wy) := HHb.out.trans (hby.mono lzr)
              have HYo : Hid (Below wo.heap.size wo wy) := HHbo.out.trans (hby.mono (by omega))
              have HY1 : Hid (Below (w.heap.size + 1) w1 wy) := HW1.out.trans (hby.mono (by omega))
              clear q1 j1 dg d0 d1 d2 hby
              cases hpg : (ID g.c == ID h.c) with
              | true =>
                have HPG : Hid ((ID g.c == ID h.c) = true) := hpg
                go_quiet (fail)
                go_wp2_with fail
                go_roundw
                case rel =>
                  refine ⟨k + 1, by have := HG.out.2; omega, by go_num, ?_, below_drewN HY1.out _⟩
                  rw [fold_take_succ HG.out.1, HOut.out, show step ID X l out h = out by unfold step; rw [if_pos (.inr (.inl (any_true HGo.out.1 HPG.out)))]]
                  exact HV.out.later (below_drewN HYo.out _)
                case measure => have := HG.out.2; simp [intOf]; omega
              | false =>
                have HPG : Hid ((ID g.c == ID h.c) = false) := hpg
                go_quiet (fail)
                go_wp2_with fail
                go_roundw
                case rel =>
                  refine ⟨by simp, m + 1, by have := HGo.out.2; omega, by go_num, below_drewN HY.out _, fun i x hi hx => ?_⟩
                  by_cases hik : i = m
                  · subst hik; rw [HGo.out.1] at hx; cases hx; exact HPG.out
                  · exact HN.out i x (by omega) hx
                case measure => have := HGo.out.2; simp [intOf]; omega
            · have hmn : m = out.length := by omega
              subst hmn
              have HA : Hid (out.any (fun g => ID g.c == ID h.c) = false) := any_false HN.out
              clear hltm HN
              have q0 : wr.cell? ⟨wo.heap.size, 0, none⟩ = some (.int .i64 h.node) := (HHb.out.cell (by simp)).trans HE.out.1
              have q2 : wr.cell? ⟨wo.heap.size, 2, none⟩ = some (.int .i64 h.links) := (HHb.out.cell (by simp)).trans HE.out.2.2
              have hVr := HV.out.later HHbo.out
              by_cases hfull : l ≤ out.length
              · have HFl : Hid (l ≤ out.length) := hfull
                have hfb : decide ((l : Int) ≤ (out.length : Int)) = true := by simp; omega
                have HVr : Hid (Hs wr (w.heap.size + 1) (.slice ao out.length co) out) := hVr
                clear hfull hVr
                go_wp2_with fail
                go_meet
                case rel =>
                  have hd := dedup_full (ID := ID) (X := X) (l := l) (hs := hs) (k := k) (by rw [HOut.out]; exact HFl.out)
                  rw [← hd, HOut.out]
                  exact ⟨HVr.out, HW1.out⟩
              · have HFl : Hid (¬ l ≤ out.length) := hfull
                have hfb : decide ((l : Int) ≤ (out.length : Int)) = false := by simp; omega
                obtain ⟨v', w', hrun, hV', hbel⟩ := app1 wr _ out (w.heap.size + 1) h hVr (by omega) lo
                have HV' : Hid (Hs w' (w.heap.size + 1) v' (out ++ [h])) := hV'
                have HB' : Hid (Below (w.heap.size + 1) wr w') := hbel
                clear hfull hVr hV' hbel
                go_wp2_with (at_builtin; refine wpList_append_run 61 hrun rfl _ _ rfl rfl rfl rfl ?_)
                go_roundw
                case rel =>
                  refine ⟨k + 1, by have := HG.out.2; omega, by go_num, ?_, HW1.out.trans HB'.out⟩
                  rw [fold_take_succ HG.out.1, HOut.out, show step ID X l out h = out ++ [h] by
                    unfold step
                    rw [if_neg]
                    rintro (h1 | h1 | h1)
                    · exact HX.out h1
                    · rw [HA.out] at h1; cases h1
                    · exact HFl.out h1]
                  exact HV'.out
                case measure => have := HG.out.2; simp [intOf]; omega
      · have hkn : k = hs.length := by omega
        subst hkn
        clear hlt
        go_wp2_with fail
        go_meet
        case rel => exact ⟨by have := HV.out; rwa [List.take_length] at this, HW.out⟩
  case rest =>
    obtain ⟨hD, hb⟩ := hcut
    have HW : Hid (Below (w.heap.size + 1) w1 wc) := hb
    have HBw : Hid (Below w.heap.size w wc) := HB1.out.below.trans (hb.mono (by omega))
    have lz : w.heap.size + 1 ≤ wc.heap.size := by have := hb.size; have := HB1.out.size; omega
    have lD : (dedup ID X l hs).length ≤ 65536 := by have := fold_len (ID := ID) (X := X) (l := l) hs []; simp at this; unfold dedup; omega
    have HID : Hid (Ids w ID (dedup ID X l hs)) := HI.out.sub (fun x hx => by
      rcases fold_sub _ _ x hx with h | h
      · simp at h
      · simp [h])
    obtain ⟨aD, cD, gD, rfl, oD⟩ := hD.open
    have HOD : Hid (0 < (dedup ID X l hs).length → aD = some ⟨gD, 0, none⟩ ∧ w.heap.size + 1 ≤ gD ∧ Part wc gD cD (dedup ID X l hs)) := oD
    have hmk := make61 (dedup ID X l hs).length (dedup ID X l hs).length (Nat.le_refl _) lD
    clear hb hD oD
    refine ‹∀ (a : Act) (w : World), Code.wp Yba.prog _ _ a w → _› _ _ ?_
    go_wp2_with fail
    clear hmk
    generalize hwm : World.alloc _ _ = wm
    have HM0 : Hid (Part wm wc.heap.size (dedup ID X l hs).length []) := by subst hwm; exact Part.zero _ _ _
    have HMB : Hid (Below wc.heap.size wc wm) := by subst hwm; exact nb (Below.refl _ _) (Nat.le_refl _) _
    clear hwm
    go_loopw [71] (fun i wr => ∃ k : Nat, k ≤ (dedup ID X l hs).length ∧ i = .int .i64 k ∧ Below wc.heap.size wc wr ∧ Part wr wc.heap.size (dedup ID X l hs).length (((dedup ID X l hs).take k).map (findH ID (pred :: (S ++ P))))) (fun i _ => (dedup ID X l hs).length - (intOf i).toNat)
    case atStart => exact ⟨0, Nat.zero_le _, rfl, HMB.out, by simpa using HM0.out⟩
    case round =>
      obtain ⟨k, hk, rfl, hb, hpt⟩ := hrel
      have HB : Hid (Below wc.heap.size wc wr) := hb
      have HBr : Hid (Below w.heap.size w wr) := HBw.out.trans (hb.mono (by omega))
      have HPt : Hid (Part wr wc.heap.size (dedup ID X l hs).length (((dedup ID X l hs).take k).map (findH ID (pred :: (S ++ P))))) := hpt
      have lzr : wc.heap.size < wr.heap.size := hpt.lt
      clear hpt hb
      by_cases hlt : k < (dedup ID X l hs).length
      · obtain ⟨rfl, hgD, hpart⟩ := HOD.out (by omega)
        obtain ⟨h, hg⟩ : ∃ g, (dedup ID X l hs)[k]? = some g := ⟨_, List.getElem?_eq_getElem hlt⟩
        obtain ⟨c0, c1, c2⟩ := hpart.cell hg
        have HG : Hid ((dedup ID X l hs)[k]? = some h ∧ k < (dedup ID X l hs).length) := ⟨hg, hlt⟩
        have kn := HID.out h (List.mem_of_getElem? hg)
        have lgD := hpart.lt
        have d0 := (HB.out.cell (p := ⟨gD, k * 3, none⟩) lgD).trans c0
        have d1 := (HB.out.cell (p := ⟨gD, k * 3 + 1, none⟩) lgD).trans c1
        have d2 := (HB.out.cell (p := ⟨gD, k * 3 + 2, none⟩) lgD).trans c2
        have p0 := (HB.out.cell (p := ⟨w.heap.size, 0, none⟩) (by simp; omega)).trans ((HW.out.cell (p := ⟨w.heap.size, 0, none⟩) (by simp)).trans HB1.out.c0)
        have p1 := (HB.out.cell (p := ⟨w.heap.size, 1, none⟩) (by simp; omega)).trans ((HW.out.cell (p := ⟨w.heap.size, 1, none⟩) (by simp)).trans HB1.out.c1)
        have p2 := (HB.out.cell (p := ⟨w.heap.size, 2, none⟩) (by simp; omega)).trans ((HW.out.cell (p := ⟨w.heap.size, 2, none⟩) (by simp)).trans HB1.out.c2)
        have wz1 : w.heap.size < wr.heap.size := by omega
        have HKn : Hid (Known w ID h.c) := kn
        clear hpart c0 c1 c2 hg kn
        go_wp2_with fail
        generalize hwx : World.alloc _ _ = wx
        obtain ⟨hbx, szx, e0, e1, e2⟩ := Boxed.of hwx
        clear hwx
        obtain ⟨y, hy⟩ : ∃ y, findH ID (pred :: (S ++ P)) h = y := ⟨_, rfl⟩
        have hbwx : Below w.heap.size w wx := HBr.out.trans (hbx.mono (by omega))
        have hc := find_any ID pred h S P B vS vP wx (HHS.out.later hbwx) (HHP.out.later hbwx) (fun x hx => by
          have hkx : Known w ID x.c := by
            rcases List.mem_cons.1 hx with rfl | hx
            · exact HKn.out
            · exact HI.out x (List.mem_append.2 (.inl hx))
          exact hkx.of_block (hbwx.block _ hkx.lt))
        rw [hy] at hc
        have HY : Hid (findH ID (pred :: (S ++ P)) h = y) := hy
        have HX : Hid (Below wr.heap.size wr wx) := hbx
        clear hy hbwx hbx d0 d1 d2 p0 p1 p2
        refine hc.mono ?_
        rintro e w2 ⟨rfl, hb2⟩
        clear hc
        have HX2 : Hid (Below wr.heap.size wr w2) := HX.out.trans (hb2.mono HX.out.size)
        have hp2 := HPt.out.of_block (HX2.out.block _ lzr)
        obtain ⟨x0, a0⟩ := hp2.any (j := k * 3) (by have := HG.out.2; omega)
        obtain ⟨x1, a1⟩ := hp2.any (j := k * 3 + 1) (by have := HG.out.2; omega)
        obtain ⟨x2, a2⟩ := hp2.any (j := k * 3 + 2) (by have := HG.out.2; omega)
        have f0 := hp2.frozen (k * 3)
        have f1 := hp2.frozen (k * 3 + 1)
        have f2 := hp2.frozen (k * 3 + 2)
        have HP2 : Hid (Part w2 wc.heap.size (dedup ID X l hs).length (((dedup ID X l hs).take k).map (findH ID (pred :: (S ++ P))))) := hp2
        clear hp2 hb2
        simp only [H.val]
        go_wp2_with fail
        go_roundw
        case rel =>
          refine ⟨k + 1, by have := HG.out.2; omega, by go_num, (((HB.out.trans (HX2.out.mono (by omega))).setCell (by simp) _).setCell (by simp) _).setCell (by simp) _, ?_⟩
          have hlen : (((dedup ID X l hs).take k).map (findH ID (pred :: (S ++ P)))).length = k := by
            have := HG.out.2
            simp; omega
          have := HP2.out.push y (by rw [hlen]; exact HG.out.2)
          rw [hlen] at this
          rw [List.take_add_one, HG.out.1, List.map_append]
          simp only [Option.toList_some, List.map_cons, List.map_nil, HY.out]
          exact this
        case measure => have := HG.out.2; simp [intOf]; omega
      · have hkn : k = (dedup ID X l hs).length := by omega
        subst hkn
        clear hlt
        go_wp2_with fail
        go_ret
        refine ⟨_, rfl, ?_, HBr.out⟩
        have := HPt.out
        rw [List.take_length] at this
        refine .inr ⟨wc.heap.size, _, ?_, by omega, this, by unfold maxLen; omega⟩
        simp
end Go.Proofs.Ybulkdkrk.lawS5587CWhole
