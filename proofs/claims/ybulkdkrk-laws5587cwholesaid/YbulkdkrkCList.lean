import Derived.Test.YbulkdkrkCBuild
namespace Go.Proofs.Ybulkdkrk.lawS5587CWhole
open Go.ChangeShapes Go.WideShapes Go.ChangeAt Go.RowKit Go.Proofs.Ybulkdkrk.lawS5587AWhole

/-- WHAT IS KNOWN OF THE RING: node x's ID, how long a list may be. -/
structure Rng (w : World) (U R Pb n x : Nat) (X : Int) (l : Nat) : Prop where
  lt : x < n
  u0 : w.cell? ⟨U, 0, none⟩ = some (.pointer (some ⟨R, 0, none⟩))
  r2 : w.cell? ⟨R, 2, none⟩ = some (.slice (some ⟨Pb, 0, none⟩) n n)
  r14 : w.cell? ⟨R, 14, none⟩ = some (.int .i64 (l : Int))
  p0 : w.cell? ⟨Pb, x * 2, none⟩ = some (.int .u64 X)

theorem Rng.later {w w' : World} {U R Pb n x : Nat} {X : Int} {l : Nat} (h : Rng w U R Pb n x X l) (hb : Below w.heap.size w w') : Rng w' U R Pb n x X l :=
  ⟨h.lt, (hb.cell (World.block_lt_of_cell? w _ h.u0)).trans h.u0, (hb.cell (World.block_lt_of_cell? w _ h.r2)).trans h.r2, (hb.cell (World.block_lt_of_cell? w _ h.r14)).trans h.r14, (hb.cell (World.block_lt_of_cell? w _ h.p0)).trans h.p0⟩

theorem wpStill_want {P : Program} {ops : Array Oper} {w : World} {Q : Act → Prop} {a : Act} {o : Oper} {rest : List Oper} (hw : Region.wanted o (yielded ops a.tmps) = true)
    (h : ∀ K : Act → Prop, (∀ a, wpStill P ops w Q rest a → K a) → o.still P a w K) : wpStill P ops w Q (o :: rest) a := by
  unfold wpStill
  rw [if_pos hw]
  exact h _ (fun _ h => h)
theorem wpStill_skip {P : Program} {ops : Array Oper} {w : World} {Q : Act → Prop} {a : Act} {o : Oper} {rest : List Oper} (hw : Region.wanted o (yielded ops a.tmps) = false)
    (h : wpStill P ops w Q rest (a.put o.dst undef)) : wpStill P ops w Q (o :: rest) a := by
  unfold wpStill
  rw [if_neg (by rw [hw]; simp)]
  exact h
theorem wpList_want {P : Program} {ops : Array Oper} {w : World} {Q : Exit → Act → World → Prop} {a : Act} {o : Oper} {rest : List Oper} (hw : Region.wanted o (yielded ops a.tmps) = true)
    (h : ∀ K : Act → World → Prop, (∀ a w, wpList P ops Q rest a w → K a w) → o.wp P a w K Q) : wpList P ops Q (o :: rest) a w := by
  unfold wpList
  rw [if_pos hw]
  exact .inl (h _ (fun _ _ h => h))
theorem wpList_skip {P : Program} {ops : Array Oper} {w : World} {Q : Exit → Act → World → Prop} {a : Act} {o : Oper} {rest : List Oper} (hw : Region.wanted o (yielded ops a.tmps) = false)
    (h : wpList P ops Q rest (a.put o.dst undef) w) : wpList P ops Q (o :: rest) a w := by
  unfold wpList
  rw [if_neg (by rw [hw]; simp)]
  exact h
theorem region_tail2 {id : Nat} {Q : Exit → Act → World → Prop} {a : Act} {w : World} {l : List Oper} (n : Nat) (hB : Region.lexTailB .any l.toArray n = true)
    (h : ∀ K : Act → Prop, (∀ a, wpList Yba.prog l.toArray Q (l.drop n) a w.drew → K a) → wpStill Yba.prog l.toArray w.drew K (l.take n) a) : (Code.region id l.toArray true).wp Yba.prog Q a w :=
  wp_region_still_tail n cmixed hB (h _ (fun _ h => h))

set_option maxRecDepth 100000 in
set_option maxHeartbeats 1000000 in
/-- listOf. -/
theorem listOf_any (ID : Nat → Int) (U R Pb n x : Nat) (X : Int) (l : Nat) (hs : List H) (B : Nat) (vH : Value) (w : World) (hR : Rng w U R Pb n x X l) (hH : Hs w B vH hs) (hn : hs.length ≤ 65536) (hi : Ids w ID hs) :
    Calls Yba.prog 22 #[.pointer (some ⟨U, 0, none⟩), .int .i64 x, vH] w fun e w' => BackL (dedup ID X l hs) w e w' := by
  obtain ⟨aH, cH, gH, rfl, oH⟩ := hH.open
  have HO : Hid (0 < hs.length → aH = some ⟨gH, 0, none⟩ ∧ B ≤ gH ∧ Part w gH cH hs) := oH
  have HI : Hid (Ids w ID hs) := hi
  have HRn : Hid (Rng w U R Pb n x X l) := hR
  obtain ⟨hx, u0, r2, r14, p0⟩ := hR
  have lU := World.block_lt_of_cell? w _ u0
  have lR := World.block_lt_of_cell? w _ r2
  have lP := World.block_lt_of_cell? w _ p0
  simp only at lU lR lP
  obtain ⟨cap, hcap⟩ : ∃ cap, min l hs.length = cap := ⟨_, rfl⟩
  have hminI : (if (hs.length : Int) < (l : Int) then (hs.length : Int) else (l : Int)) = (cap : Int) := by split <;> omega
  have hminN : (if hs.length < l then (hs.length : Int) else (l : Int)) = (cap : Int) := by split <;> omega
  have hcn : cap ≤ 65536 := by omega
  have hmk : ∀ w : World, (Instr.makeSlice 61 (.int .i64 0) (.int .i64 (cap : Int))).run Yba.prog w = .ok (.slice (some ⟨w.heap.size, 0, none⟩) 0 cap) (w.alloc (.cells (madeCells #[.int .i64 0, .pointer none, .int .i64 0] (cap * 3)) 64)) := make61 0 cap (by omega) hcn
  clear hi oH hH hcap
  go_enter Yba.func22, Yba.ntmps22
  go_wp2_with fail
  clear hmk hminI hminN r2 r14 p0 u0
  generalize hwm : World.alloc _ _ = wm
  have HM0 : Hid (Hs wm w.heap.size (.slice (some ⟨w.heap.size, 0, none⟩) 0 cap) []) := by
    subst hwm
    exact .inr ⟨w.heap.size, cap, rfl, Nat.le_refl _, Part.zero _ _ _, by unfold maxLen; omega⟩
  have HMB : Hid (Below w.heap.size w wm) := by subst hwm; exact nb (Below.refl _ _) (Nat.le_refl _) _
  clear hwm
  go_loopw [7, 23] (fun v i wr => ∃ k : Nat, k ≤ hs.length ∧ i = .int .i64 k ∧ Hs wr w.heap.size v ((hs.take k).foldl (step ID X l) []) ∧ Below w.heap.size w wr) (fun _ i _ => hs.length - (intOf i).toNat)
  case atStart => exact ⟨0, Nat.zero_le _, rfl, HM0.out, HMB.out⟩
  case round =>
    obtain ⟨k, hk, rfl, hv, hb⟩ := hrel
    have HBw : Hid (Below w.heap.size w wr) := hb
    have lz : w.heap.size ≤ wr.heap.size := hb.size
    obtain ⟨out, hout⟩ : ∃ out, (hs.take k).foldl (step ID X l) [] = out := ⟨_, rfl⟩
    have HOut : Hid ((hs.take k).foldl (step ID X l) [] = out) := hout
    rw [hout] at hv
    have HV : Hid (Hs wr w.heap.size u7 out) := hv
    have lo : out.length ≤ 65536 := by have := fold_take_len (ID := ID) (X := X) (l := l) (hs := hs) (k := k); rw [hout] at this; omega
    have HIo : Hid (Ids w ID out) := HI.out.sub (fun x hx => by rw [← hout] at hx; exact dedup_sub x hx)
    clear hv hb
    by_cases hlt : k < hs.length
    · clear hout
      obtain ⟨rfl, hBg, hpart⟩ := HO.out (by omega)
      obtain ⟨h, hg⟩ : ∃ g, hs[k]? = some g := ⟨_, List.getElem?_eq_getElem hlt⟩
      obtain ⟨c0, c1, c2⟩ := hpart.cell hg
      have HG : Hid (hs[k]? = some h ∧ k < hs.length) := ⟨hg, hlt⟩
      have kn := HI.out h (List.mem_of_getElem? hg)
      have HKn : Hid (Known w ID h.c) := kn
      have d0 := (HBw.out.cell (p := ⟨gH, k * 3, none⟩) hpart.lt).trans c0
      have d1 := (HBw.out.cell (p := ⟨gH, k * 3 + 1, none⟩) hpart.lt).trans c1
      have d2 := (HBw.out.cell (p := ⟨gH, k * 3 + 2, none⟩) hpart.lt).trans c2
      clear hpart c0 c1 c2 hg kn
      obtain ⟨ao, co, go, rfl, oo⟩ := HV.out.open
      clear oo
      go_wp2_with fail
      generalize hwx : World.alloc _ _ = wx
      obtain ⟨hbx, szx, e0, e1, e2⟩ := Boxed.of hwx
      clear hwx
      have hbwx : Below w.heap.size w wx := HBw.out.trans (hbx.mono lz)
      have HBX : Hid (Below wr.heap.size wr wx) := hbx
      have HBWX : Hid (Below w.heap.size w wx) := hbwx
      have hVx := HV.out.later hbx
      have HVx : Hid (Hs wx w.heap.size (.slice ao out.length co) out) := hVx
      obtain ⟨_, u0, r2, r14, p0⟩ := HRn.out.later hbwx
      have dg := (HKn.out.of_block (hbwx.block _ HKn.out.lt)).cell
      clear d0 d1 d2 hbx hbwx hVx
      by_cases hlen : out.length < l
      · by_cases hX : ID h.c = X
        · have hl1 : decide ((out.length : Int) < (l : Int)) = true := by simp; omega
          have hX1 : (ID h.c != X) = false := by simpa using hX
          have HX : Hid (ID h.c = X) := hX
          go_quiet ((go_at_call 28; exact Calls.quiet_of_same (id_any R Pb n x X _ hx r2 p0)))
          go_wp2_with fail
          go_roundw
          case rel =>
            refine ⟨k + 1, by have := HG.out.2; omega, by go_num, ?_, below_drewN HBWX.out _⟩
            rw [fold_take_succ HG.out.1, HOut.out, show step ID X l out h = out by unfold step; rw [if_pos (.inl HX.out)]]
            exact HVx.out.later (below_drewN (Below.refl _ _) _)
          case measure => have := HG.out.2; simp [intOf]; omega
        · have hl1 : decide ((out.length : Int) < (l : Int)) = true := by simp; omega
          have hX1 : (ID h.c != X) = true := by simpa using hX
          refine region_tail2 29 (by kernel_rfl) ?_
          intro KK hKK
          simp only [List.take_succ_cons, List.take_zero]
          repeat (refine wpStill_want rfl (fun K hK => ?_); go_simp; refine hK _ ?_; clear hK K)
          refine wpStill_want rfl (fun K hK => ?_)
          go_simp
          refine ⟨_, id_any R Pb n x X _ hx r2 p0, hK _ ?_⟩
          clear hK K
          repeat (refine wpStill_want rfl (fun K hK => ?_); go_simp; refine hK _ ?_; clear hK K)
          refine wpStill_nil ?_
          refine hKK _ ?_
          clear hKK KK
          simp only [List.drop_succ_cons, List.drop_zero]
          refine wpList_want rfl (fun K hK => ?_)
          go_simp
          have HX : Hid (¬ ID h.c = X) := hX
          have HLn : Hid (¬ l ≤ out.length) := by show ¬ l ≤ out.length; omega
          have hdr : Below wx.heap.size wx wx.drew := below_drewN (Below.refl _ _) 1
          refine (contains_any ID out h w.heap.size _ wx.drew (HVx.out.later hdr) (fun y hy => by
            have hk : Known w ID y.c := by
              rcases List.mem_cons.1 hy with rfl | hy
              · exact HKn.out
              · exact HIo.out y hy
            exact hk.of_block (HBWX.out.block _ hk.lt))).mono ?_
          rintro e w2 ⟨rfl, hb2⟩
          have HB2 : Hid (Below wx.heap.size wx w2) := hdr.trans hb2
          have e0' := (HB2.out.cell (p := ⟨wr.heap.size, 0, none⟩) (by simp; omega)).trans e0
          have e1' := (HB2.out.cell (p := ⟨wr.heap.size, 1, none⟩) (by simp; omega)).trans e1
          have e2' := (HB2.out.cell (p := ⟨wr.heap.size, 2, none⟩) (by simp; omega)).trans e2
          clear hb2 hdr e0 e1 e2 u0 r2 r14 p0 dg hX hX1 hl1
          have HW2 : Hid (Below w.heap.size w w2) := HBWX.out.trans (HB2.out.mono (by omega))
          cases hany : out.any (fun g => ID h.c == ID g.c) with
          | true =>
            have HAny : Hid (out.any (fun g => ID g.c == ID h.c) = true) := by rw [← any_comm]; exact hany
            refine hK _ _ ?_
            clear hK K
            refine wpList_want rfl (fun K hK => ?_)
            go_simp
            refine hK _ _ ?_
            clear hK K
            refine wpList_want rfl (fun K hK => ?_)
            go_simp
            refine hK _ _ ?_
            clear hK K
            go_wp2_with fail
            go_roundw
            case rel =>
              refine ⟨k + 1, by have := HG.out.2; omega, by go_num, ?_, HW2.out⟩
              rw [fold_take_succ HG.out.1, HOut.out, show step ID X l out h = out by unfold step; rw [if_pos (.inr (.inl HAny.out))]]
              exact HVx.out.later HB2.out
            case measure => have := HG.out.2; simp [intOf]; omega
          | false =>
            have HAny : Hid (out.any (fun g => ID g.c == ID h.c) = false) := by rw [← any_comm]; exact hany
            refine hK _ _ ?_
            clear hK K
            refine wpList_want rfl (fun K hK => ?_)
            go_simp
            refine hK _ _ ?_
            clear hK K
            refine wpList_want rfl (fun K hK => ?_)
            go_simp
            refine hK _ _ ?_
            clear hK K
            obtain ⟨v', w', hrun, hV', hbel⟩ := app1 w2 _ out w.heap.size h (HVx.out.later HB2.out) HW2.out.size lo
            have HV' : Hid (Hs w' w.heap.size v' (out ++ [h])) := hV'
            have HB' : Hid (Below w.heap.size w2 w') := hbel
            clear hV' hbel
            go_wp2_with (at_builtin; refine wpList_append_run 61 hrun rfl _ _ rfl rfl rfl rfl ?_)
            go_roundw
            case rel =>
              refine ⟨k + 1, by have := HG.out.2; omega, by go_num, ?_, HW2.out.trans HB'.out⟩
              rw [fold_take_succ HG.out.1, HOut.out, show step ID X l out h = out ++ [h] by
                unfold step
                rw [if_neg]
                rintro (h1 | h1 | h1)
                · exact HX.out h1
                · rw [HAny.out] at h1; cases h1
                · exact HLn.out h1]
              exact HV'.out
            case measure => have := HG.out.2; simp [intOf]; omega
      · have hl1 : decide ((out.length : Int) < (l : Int)) = false := by simp; omega
        have HLn : Hid (l ≤ out.length) := by show l ≤ out.length; omega
        go_quiet ((go_at_call 28; exact Calls.quiet_of_same (id_any R Pb n x X _ hx r2 p0)))
        go_wp2_with fail
        go_roundw
        case rel =>
          refine ⟨k + 1, by have := HG.out.2; omega, by go_num, ?_, below_drewN HBWX.out _⟩
          rw [fold_take_succ HG.out.1, HOut.out, show step ID X l out h = out by unfold step; rw [if_pos (.inr (.inr HLn.out))]]
          exact HVx.out.later (below_drewN (Below.refl _ _) _)
        case measure => have := HG.out.2; simp [intOf]; omega
    · have hkn : k = hs.length := by omega
      subst hkn
      rw [List.take_length] at hout
      have HOut : Hid (dedup ID X l hs = out) := hout
      clear hlt hout
      go_wp2_with fail
      go_ret
      refine ⟨_, rfl, ?_, HBw.out⟩
      rw [HOut.out]
      exact HV.out
end Go.Proofs.Ybulkdkrk.lawS5587CWhole
