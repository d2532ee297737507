import Derived.Test.YbulkdkrkCList
import Derived.Deep.RegionWith
namespace Go.Proofs.Ybulkdkrk.lawS5587CWhole
open Go.ChangeShapes Go.WideShapes Go.ChangeAt Go.RowKit Go.Proofs.Ybulkdkrk.lawS5587AWhole

/-- Entry by entry replaced. -/
def turned (f : H → H) (L : List H) (k : Nat) : List H := (L.take k).map f ++ L.drop k
theorem turned_zero (f : H → H) (L : List H) : turned f L 0 = L := by simp [turned]
theorem turned_len (f : H → H) (L : List H) (k : Nat) : (turned f L k).length = L.length := by simp [turned]; omega
theorem turned_all (f : H → H) (L : List H) : turned f L L.length = L.map f := by simp [turned]
theorem turned_get (f : H → H) (L : List H) {k : Nat} {h : H} (e : L[k]? = some h) : (turned f L k)[k]? = some h := by
  have hk := lt_of_get e
  unfold turned
  rw [List.getElem?_append_right (by simp; omega)]
  simp
  rw [show k + (k - min k L.length) = k by omega]
  exact e
theorem turned_succ (f : H → H) (L : List H) {k : Nat} {h : H} (e : L[k]? = some h) : turned f L (k + 1) = (turned f L k).set k (f h) := by
  have hk := lt_of_get e
  apply List.ext_getElem?
  intro i
  unfold turned
  rw [List.getElem?_set]
  by_cases hik : k = i
  · subst hik
    rw [if_pos rfl, if_pos (by simp; omega)]
    rw [List.getElem?_append_left (by simp; omega)]
    simp [e]
  · rw [if_neg hik]
    by_cases hlt : i < k
    · rw [List.getElem?_append_left (by simp; omega), List.getElem?_append_left (by simp; omega)]
      simp [show i < k + 1 by omega, hlt]
    · rw [List.getElem?_append_right (by simp; omega), List.getElem?_append_right (by simp; omega)]
      simp
      congr 1
      omega

set_option maxRecDepth 100000 in
set_option maxHeartbeats 4000000 in
/-- heldList. -/
theorem heldList_any (ID : Nat → Int) (U R Pb Tb n x : Nat) (X : Int) (l : Nat) (pred : H) (hs S P : List H) (B : Nat) (vH vS vP : Value) (st : Bool) (w : World) (hR : Rng w U R Pb n x X l) (hT : Tab w R Tb n x pred vS vP st)
    (hH : Hs w B vH hs) (hS : Hs w B vS S) (hP : Hs w B vP P) (hn : hs.length ≤ 65536) (hi : Ids w ID (pred :: (S ++ P) ++ hs)) :
    Calls Yba.prog 18 #[.pointer (some ⟨U, 0, none⟩), .int .i64 x, vH] w fun e w' => BackL ((dedup ID X l hs).map (findH ID (pred :: (S ++ P)))) w e w' := by
  have HI : Hid (Ids w ID (pred :: (S ++ P) ++ hs)) := hi
  have HRn : Hid (Rng w U R Pb n x X l) := hR
  have HT : Hid (Tab w R Tb n x pred vS vP st) := hT
  have HHS : Hid (Hs w B vS S) := hS
  have HHP : Hid (Hs w B vP P) := hP
  go_enter Yba.func18, Yba.ntmps18
  go_wp2_with fail
  refine (listOf_any ID U R Pb n x X l hs B vH w hR hH hn (hi.sub (fun y hy => List.mem_append.2 (.inr hy)))).mono ?_
  rintro e wl ⟨v, rfl, hD, hb⟩
  have HBl : Hid (Below w.heap.size w wl) := hb
  have HID : Hid (Ids w ID (dedup ID X l hs)) := hi.sub (fun x hx => by
    rcases fold_sub _ _ x hx with h | h
    · simp at h
    · simp [h])
  have lD : (dedup ID X l hs).length ≤ 65536 := by have := fold_len (ID := ID) (X := X) (l := l) hs []; simp at this; unfold dedup; omega
  obtain ⟨D, hDD⟩ : ∃ D, dedup ID X l hs = D := ⟨_, rfl⟩
  rw [hDD] at hD HID lD
  have HDD : Hid (dedup ID X l hs = D) := hDD
  clear hi hR hT hS hP hH hb hDD
  rcases hD with ⟨rfl, rfl⟩ | ⟨g, cap, rfl, hBg, hpart, hcap⟩
  · go_wp2_with fail
    go_loopw [16] (fun i wr => i = .int .i64 0 ∧ wr = wl) (fun _ _ => 0)
    case atStart => exact ⟨rfl, rfl⟩
    case round =>
      obtain ⟨rfl, rfl⟩ := hrel
      go_wp2_with fail
      go_ret
      exact ⟨_, rfl, by rw [HDD.out]; exact Hs.nil _ _, HBl.out⟩
  · have HPt : Hid (Part wl g cap D) := hpart
    have lgl := hpart.lt
    clear hpart
    go_wp2_with fail
    go_loopw [16] (fun i wr => ∃ k : Nat, k ≤ D.length ∧ i = .int .i64 k ∧ Below w.heap.size w wr ∧ wl.heap.size ≤ wr.heap.size ∧ Part wr g cap (turned (findH ID (pred :: (S ++ P))) D k)) (fun i _ => D.length - (intOf i).toNat)
    case atStart => exact ⟨0, Nat.zero_le _, rfl, HBl.out, Nat.le_refl _, by rw [turned_zero]; exact HPt.out⟩
    case round =>
      obtain ⟨k, hk, rfl, hb, hz, hpt⟩ := hrel
      have HB : Hid (Below w.heap.size w wr) := hb
      have HPr : Hid (Part wr g cap (turned (findH ID (pred :: (S ++ P))) D k)) := hpt
      have lgr := hpt.lt
      by_cases hlt : k < D.length
      · obtain ⟨h, hg⟩ : ∃ g, D[k]? = some g := ⟨_, List.getElem?_eq_getElem hlt⟩
        obtain ⟨c0, c1, c2⟩ := hpt.cell (turned_get (findH ID (pred :: (S ++ P))) D hg)
        have HG : Hid (D[k]? = some h ∧ k < D.length) := ⟨hg, hlt⟩
        have HKn : Hid (Known w ID h.c) := HID.out h (List.mem_of_getElem? hg)
        clear hg hb hpt
        go_wp2_with fail
        generalize hwx : World.alloc _ _ = wx
        obtain ⟨hbx, szx, e0, e1, e2⟩ := Boxed.of hwx
        clear hwx
        have HBX : Hid (Below wr.heap.size wr wx) := hbx
        have hbwx : Below w.heap.size w wx := HB.out.trans (hbx.mono HB.out.size)
        have HBWX : Hid (Below w.heap.size w wx) := hbwx
        obtain ⟨hx, u0, _, _, _⟩ := HRn.out.later hbwx
        obtain ⟨y, hy⟩ : ∃ y, findH ID (pred :: (S ++ P)) h = y := ⟨_, rfl⟩
        have hc : ∀ wq, Below wx.heap.size wx wq → Calls Yba.prog 23 #[.pointer (some ⟨R, 0, none⟩), .int .i64 x, h.val] wq fun e w' => Back y wq e w' := by
          intro wq hq
          have hbq : Below w.heap.size w wq := HBWX.out.trans (hq.mono HBWX.out.size)
          rw [← hy]
          refine holding_any ID pred h S P B R Tb n x vS vP st wq (HT.out.later hbq) (HHS.out.later hbq) (HHP.out.later hbq) (fun z hz => ?_)
          have hkz : Known w ID z.c := by
            rcases List.mem_cons.1 hz with rfl | hz
            · exact HKn.out
            · exact HI.out z (List.mem_append.2 (.inl hz))
          exact hkz.of_block (hbq.block _ hkz.lt)
        simp only [H.val] at hc
        have HC := show Hid _ from hc
        have HY : Hid (findH ID (pred :: (S ++ P)) h = y) := hy
        have HPx : Hid (Part wx g cap (turned (findH ID (pred :: (S ++ P))) D k)) := HPr.out.of_block (HBX.out.block _ lgr)
        clear hc hy hbx hbwx c0 c1 c2
        have i1 : (k : Int) < (D.length : Int) := by omega

        go_region_with (
          (go_at_call 23
           refine (HC.out _ (below_drewN (Below.refl _ _) 1)).mono ?_
           rintro e w2 ⟨rfl, hb2⟩
           have HB2 : Hid (Below wx.heap.size wx w2) := (below_drewN (Below.refl _ _) 1 : Below wx.heap.size wx wx.drew).trans hb2
           have hp2 := HPx.out.of_block (HB2.out.block _ HPx.out.lt)
           obtain ⟨x0, a0⟩ := hp2.any (j := k * 3) (by have := HG.out.2; have := HPx.out; obtain ⟨_, _, h, _⟩ := this; rw [turned_len] at h; omega)
           obtain ⟨x1, a1⟩ := hp2.any (j := k * 3 + 1) (by have := HG.out.2; have := HPx.out; obtain ⟨_, _, h, _⟩ := this; rw [turned_len] at h; omega)
           obtain ⟨x2, a2⟩ := hp2.any (j := k * 3 + 2) (by have := HG.out.2; have := HPx.out; obtain ⟨_, _, h, _⟩ := this; rw [turned_len] at h; omega)
           have f0 := hp2.frozen (k * 3)
           have f1 := hp2.frozen (k * 3 + 1)
           have f2 := hp2.frozen (k * 3 + 2)
           clear hp2 hb2
           simp only [H.val]))
        all_goals
          go_wp2_with fail
          go_roundw
          case rel =>
            refine ⟨k + 1, by have := HG.out.2; omega, by go_num, ?_, ?_, ?_⟩
            · exact (((HBWX.out.trans (HB2.out.mono HBWX.out.size)).setCell (by simp; omega) _).setCell (by simp; omega) _).setCell (by simp; omega) _
            · have := HB2.out.size
              simp; omega
            · rw [turned_succ _ _ HG.out.1, HY.out]
              exact (HPx.out.of_block (HB2.out.block _ HPx.out.lt)).turn k y
          case measure => have := HG.out.2; simp [intOf]; omega
      · have hkn : k = D.length := by omega
        subst hkn
        clear hlt hb hpt
        go_wp2_with fail
        go_ret
        refine ⟨_, rfl, ?_, HB.out⟩
        have := HPr.out
        rw [turned_all] at this
        rw [HDD.out]
        exact .inr ⟨g, cap, by simp, hBg, this, hcap⟩
end Go.Proofs.Ybulkdkrk.lawS5587CWhole
