import Derived.Test.YbulkdkrkCCont
namespace Go.Proofs.Ybulkdkrk.lawS5587CWhole
open Go.ChangeShapes Go.WideShapes Go.ChangeAt Go.RowKit Go.Proofs.Ybulkdkrk.lawS5587AWhole

/-- What holding has looked through when j of its three lists are done. -/
def pre3 (S P : List H) : Nat → List H
  | 0 => []
  | 1 => S
  | _ => S ++ P

/-- WHAT IS KNOWN OF NODE x's TABLE AND OF THE RING. -/
structure Tab (w : World) (R Tb n x : Nat) (pred : H) (vS vP : Value) (st : Bool) : Prop where
  lt : x < n
  r11 : w.cell? ⟨R, 11, none⟩ = some (.slice (some ⟨Tb, 0, none⟩) n n)
  t0 : w.cell? ⟨Tb, x * 12, none⟩ = some (.int .i64 pred.node)
  t1 : w.cell? ⟨Tb, x * 12 + 1, none⟩ = some (.pointer (some ⟨pred.c, 0, none⟩))
  t2 : w.cell? ⟨Tb, x * 12 + 2, none⟩ = some (.int .i64 pred.links)
  t3 : w.cell? ⟨Tb, x * 12 + 3, none⟩ = some vS
  t4 : w.cell? ⟨Tb, x * 12 + 4, none⟩ = some vP
  t5 : w.cell? ⟨Tb, x * 12 + 5, none⟩ = some (.slice none 0 0)
  t8 : w.cell? ⟨Tb, x * 12 + 8, none⟩ = some (.bool st)

theorem Tab.later {w w' : World} {R Tb n x : Nat} {pred : H} {vS vP : Value} {st : Bool} (h : Tab w R Tb n x pred vS vP st) (hb : Below w.heap.size w w') : Tab w' R Tb n x pred vS vP st := by
  have l1 : R < w.heap.size := World.block_lt_of_cell? w _ h.r11
  have l2 : Tb < w.heap.size := World.block_lt_of_cell? w _ h.t0
  exact ⟨h.lt, (hb.cell (by exact l1)).trans h.r11, (hb.cell (by exact l2)).trans h.t0, (hb.cell (by exact l2)).trans h.t1, (hb.cell (by exact l2)).trans h.t2, (hb.cell (by exact l2)).trans h.t3, (hb.cell (by exact l2)).trans h.t4, (hb.cell (by exact l2)).trans h.t5, (hb.cell (by exact l2)).trans h.t8⟩

set_option maxRecDepth 100000 in
set_option maxHeartbeats 1000000 in
/-- Ring.holding. -/
theorem holding_any (ID : Nat → Int) (pred h : H) (S P : List H) (B R Tb n x : Nat) (vS vP : Value) (st : Bool) (w : World) (hT : Tab w R Tb n x pred vS vP st) (hS : Hs w B vS S) (hP : Hs w B vP P) (hi : Ids w ID (h :: pred :: (S ++ P))) :
    Calls Yba.prog 23 #[.pointer (some ⟨R, 0, none⟩), .int .i64 x, h.val] w fun e w' => Back (findH ID (pred :: (S ++ P)) h) w e w' := by
  have mS := hS.len
  have mP := hP.len
  obtain ⟨aS, cS, gS, rfl, oS⟩ := hS.open
  obtain ⟨aP, cP, gP, rfl, oP⟩ := hP.open
  have i1 := (hi h (by simp)).cell
  have i2 := (hi pred (by simp)).cell
  have l1 : h.c < w.heap.size := World.block_lt_of_cell? w _ i1
  have l2 : pred.c < w.heap.size := World.block_lt_of_cell? w _ i2
  have HI : Hid (Ids w ID (h :: pred :: (S ++ P))) := hi
  have HS : Hid (0 < S.length → aS = some ⟨gS, 0, none⟩ ∧ B ≤ gS ∧ Part w gS cS S) := oS
  have HP : Hid (0 < P.length → aP = some ⟨gP, 0, none⟩ ∧ B ≤ gP ∧ Part w gP cP P) := oP
  clear hi oS oP hS hP
  obtain ⟨hx, r11, t0, t1, t2, t3, t4, t5, t8⟩ := hT
  have lR : R < w.heap.size := World.block_lt_of_cell? w _ r11
  have lT : Tb < w.heap.size := World.block_lt_of_cell? w _ t0
  simp only [H.val]
  go_enter Yba.func23, Yba.ntmps23
  go_wp2_with fail
  generalize hw3 : World.alloc _ _ = w3
  have b3 : Below w.heap.size w w3 := by subst hw3; exact nb (nb (Below.refl _ _) (Nat.le_refl _) _) (Nat.le_refl _) _
  have sz : w3.heap.size = w.heap.size + 2 := by subst hw3; simp
  have q0 : w3.cell? ⟨w.heap.size, 0, none⟩ = some (.int .i64 h.node) := by subst hw3; simp [go_sem]
  have q1 : w3.cell? ⟨w.heap.size, 1, none⟩ = some (.pointer (some ⟨h.c, 0, none⟩)) := by subst hw3; simp [go_sem]
  have q2 : w3.cell? ⟨w.heap.size, 2, none⟩ = some (.int .i64 h.links) := by subst hw3; simp [go_sem]
  have r0 : w3.frozen? ⟨w.heap.size + 1, 0, none⟩ = false := by subst hw3; simp [go_sem]
  have r1 : w3.frozen? ⟨w.heap.size + 1, 1, none⟩ = false := by subst hw3; simp [go_sem]
  have r2 : w3.frozen? ⟨w.heap.size + 1, 2, none⟩ = false := by subst hw3; simp [go_sem]
  have s0 : w3.cell? ⟨w.heap.size + 1, 0, none⟩ = some (.int .i64 0) := by subst hw3; simp [go_sem]
  have s1 : w3.cell? ⟨w.heap.size + 1, 1, none⟩ = some (.pointer none) := by subst hw3; simp [go_sem]
  have s2 : w3.cell? ⟨w.heap.size + 1, 2, none⟩ = some (.int .i64 0) := by subst hw3; simp [go_sem]
  clear hw3
  have j1 : w3.cell? ⟨h.c, 0, none⟩ = some (.int .u64 (ID h.c)) := (b3.cell (by exact l1)).trans i1
  have j2 : w3.cell? ⟨pred.c, 0, none⟩ = some (.int .u64 (ID pred.c)) := (b3.cell (by exact l2)).trans i2
  have u0 := (b3.cell (p := ⟨Tb, x * 12, none⟩) (by exact lT)).trans t0
  have u1 := (b3.cell (p := ⟨Tb, x * 12 + 1, none⟩) (by exact lT)).trans t1
  have u2 := (b3.cell (p := ⟨Tb, x * 12 + 2, none⟩) (by exact lT)).trans t2
  have u3 := (b3.cell (p := ⟨Tb, x * 12 + 3, none⟩) (by exact lT)).trans t3
  have u4 := (b3.cell (p := ⟨Tb, x * 12 + 4, none⟩) (by exact lT)).trans t4
  have u5 := (b3.cell (p := ⟨Tb, x * 12 + 5, none⟩) (by exact lT)).trans t5
  clear t0 t1 t2 t3 t4 t5 t8 r11 i2
  cases hpq : (ID pred.c == ID h.c) with
  | true =>
    go_quiet (fail)
    go_wp2
    simp [bodyPost, results, Yba.results23, go_sem, s0, s1, s2]
    refine ⟨?_, (((below_drewN b3 _).setCell (by simp) _).setCell (by simp) _).setCell (by simp) _⟩
    rw [show findH ID (pred :: (S ++ P)) h = pred by simp [findH, hpq]]
    rfl
  | false =>
    have HPQ : Hid ((ID pred.c == ID h.c) = false) := hpq
    go_quiet (fail)
    go_wp2_with fail
    go_quiet (fail)
    go_wp2_with fail
    generalize hw4 : World.drewN _ _ = w4
    have HB : Hid (Below w.heap.size w w4) := by subst hw4; exact below_drewN (below_drewN b3 _) _
    have sz4 : w4.heap.size = w.heap.size + 2 := by subst hw4; exact sz
    have cc : ∀ a, w4.cell? a = w3.cell? a := fun a => by subst hw4; rfl
    have cf : ∀ a, w4.frozen? a = w3.frozen? a := fun a => by subst hw4; rfl
    rw [← cc] at q0 q1 q2 s0 s1 s2
    rw [← cf] at r0 r1 r2
    have HC : Hid (w4.cell? ⟨w.heap.size, 0, none⟩ = some (.int .i64 h.node) ∧ w4.cell? ⟨w.heap.size, 1, none⟩ = some (.pointer (some ⟨h.c, 0, none⟩)) ∧ w4.cell? ⟨w.heap.size, 2, none⟩ = some (.int .i64 h.links)) := ⟨q0, q1, q2⟩
    have HR : Hid ((w4.cell? ⟨w.heap.size + 1, 0, none⟩ = some (.int .i64 0) ∧ w4.cell? ⟨w.heap.size + 1, 1, none⟩ = some (.pointer none) ∧ w4.cell? ⟨w.heap.size + 1, 2, none⟩ = some (.int .i64 0)) ∧ w4.frozen? ⟨w.heap.size + 1, 0, none⟩ = false ∧ w4.frozen? ⟨w.heap.size + 1, 1, none⟩ = false ∧ w4.frozen? ⟨w.heap.size + 1, 2, none⟩ = false) := ⟨⟨s0, s1, s2⟩, r0, r1, r2⟩
    clear cc cf hw4 q0 q1 q2 s0 s1 s2 r0 r1 r2 b3 sz j1 j2 u0 u1 u2 u3 u4 u5
    have hsel : ∀ j : Nat, j < 3 → ∃ (L A C : List H) (ao : Option Addr) (cap g : Nat), (∀ wr, (Instr.index 116 (.agg #[.slice aS S.length cS, .slice aP P.length cP, .slice none 0 0]) (.int .i64 (j : Int))).run Yba.prog wr = .ok (.slice ao L.length cap) wr) ∧
        L.length ≤ 9223372036854775807 ∧ (0 < L.length → ao = some ⟨g, 0, none⟩ ∧ Part w g cap L) ∧ S ++ P = A ++ (L ++ C) ∧ pre3 S P j = A ∧ pre3 S P (j + 1) = A ++ L := by
      intro j hj
      have h3 : j = 0 ∨ j = 1 ∨ j = 2 := by omega
      rcases h3 with rfl | rfl | rfl
      · exact ⟨S, [], P, aS, cS, gS, fun wr => by rfl, mS, fun h0 => ⟨(HS.out h0).1, (HS.out h0).2.2⟩, by simp, rfl, by simp [pre3]⟩
      · exact ⟨P, S, [], aP, cP, gP, fun wr => by rfl, mP, fun h0 => ⟨(HP.out h0).1, (HP.out h0).2.2⟩, by simp, rfl, by simp [pre3]⟩
      · exact ⟨[], S ++ P, [], none, 0, 0, fun wr => by rfl, by simp, fun h0 => by simp at h0, by simp, rfl, by simp [pre3]⟩
    have HSEL := show Hid _ from hsel
    clear hsel HS HP
    go_loopw [51] (fun i wr => ∃ j : Nat, j ≤ 3 ∧ i = .int .i64 j ∧ Below (w.heap.size + 2) w4 wr ∧ ∀ x ∈ pre3 S P j, (ID x.c == ID h.c) = false) (fun i _ => 3 - (intOf i).toNat)
    case atStart => exact ⟨0, by omega, rfl, Below.refl _ _, fun x hx => by simp [pre3] at hx⟩
    case round =>
      obtain ⟨j, hj, rfl, hb, hno⟩ := hrel
      have HNo : Hid (∀ x ∈ pre3 S P j, (ID x.c == ID h.c) = false) := hno
      have HWr : Hid (Below (w.heap.size + 2) w4 wr) := hb
      clear hno hb
      by_cases hj3 : j < 3
      · obtain ⟨L, A, C, ao, cap, g, hidx, mL, hpt, hSP, hA, hA1⟩ := HSEL.out j hj3
        have HPt : Hid (0 < L.length → ao = some ⟨g, 0, none⟩ ∧ Part w g cap L) := hpt
        have HSP : Hid (S ++ P = A ++ (L ++ C) ∧ pre3 S P j = A ∧ pre3 S P (j + 1) = A ++ L ∧ j < 3) := ⟨hSP, hA, hA1, hj3⟩
        clear hpt hSP hA hA1
        have hj3b : decide ((j : Int) < 3) = true := by simp; omega
        go_wp2_with fail
        go_loopw [56] (fun i wq => ∃ k : Nat, k ≤ L.length ∧ i = .int .i64 k ∧ Below (w.heap.size + 2) w4 wq ∧ ∀ i x, i < k → L[i]? = some x → (ID x.c == ID h.c) = false) (fun i _ => L.length - (intOf i).toNat)
        case atStart => exact ⟨0, Nat.zero_le _, rfl, HWr.out, fun i x hi => by omega⟩
        case round =>
          obtain ⟨k, hk, rfl, hb, hno⟩ := hrel
          have hbw : Below w.heap.size w wr := HB.out.trans (hb.mono (by omega))
          have q1 : wr.cell? ⟨w.heap.size, 1, none⟩ = some (.pointer (some ⟨h.c, 0, none⟩)) := (hb.cell (by simp)).trans HC.out.2.1
          have j1 : wr.cell? ⟨h.c, 0, none⟩ = some (.int .u64 (ID h.c)) := (hbw.cell (by exact l1)).trans i1
          have HN : Hid (∀ i x, i < k → L[i]? = some x → (ID x.c == ID h.c) = false) := hno
          have lz : w.heap.size + 2 ≤ wr.heap.size := by have := hb.size; omega
          have HHb : Hid (Below (w.heap.size + 2) w4 wr) := hb
          have HHbw : Hid (Below w.heap.size w wr) := hbw
          clear hno hb hbw
          by_cases hlt : k < L.length
          · obtain ⟨rfl, hpart⟩ := HPt.out (by omega)
            obtain ⟨y, hg⟩ : ∃ g, L[k]? = some g := ⟨_, List.getElem?_eq_getElem hlt⟩
            obtain ⟨c0, c1, c2⟩ := hpart.cell hg
            have HG : Hid (L[k]? = some y ∧ k < L.length) := ⟨hg, hlt⟩
            have gi := (HI.out y (by
              have h1 := List.mem_of_getElem? hg
              rw [HSP.out.1]
              simp [h1])).cell
            have lg : y.c < w.heap.size := World.block_lt_of_cell? w _ gi
            have d0 := (HHbw.out.cell (p := ⟨g, k * 3, none⟩) hpart.lt).trans c0
            have d1 := (HHbw.out.cell (p := ⟨g, k * 3 + 1, none⟩) hpart.lt).trans c1
            have d2 := (HHbw.out.cell (p := ⟨g, k * 3 + 2, none⟩) hpart.lt).trans c2
            have dg := (HHbw.out.cell (p := ⟨y.c, 0, none⟩) (by exact lg)).trans gi
            clear hpart c0 c1 c2 gi i1 hg
            go_wp2_with fail
            generalize hwx : World.alloc _ _ = wx
            have bx := Boxed.of hwx
            obtain ⟨hbx, szx, e0, e1, e2⟩ := bx
            clear hwx
            have q1' := (hbx.cell (p := ⟨w.heap.size, 1, none⟩) (by simp; omega)).trans q1
            have j1' := (hbx.cell (p := ⟨h.c, 0, none⟩) (by simp; omega)).trans j1
            have dg' := (hbx.cell (p := ⟨y.c, 0, none⟩) (by simp; omega)).trans dg
            have HX : Hid (Below (w.heap.size + 2) w4 wx) := HHb.out.trans (hbx.mono lz)
            have HXw : Hid (Below w.heap.size w wx) := HHbw.out.trans (hbx.mono (by omega))
            clear q1 j1 dg d0 d1 d2 hbx
            cases hpg : (ID y.c == ID h.c) with
            | true =>
              go_quiet (fail)
              have s0 := (HX.out.cell (p := ⟨w.heap.size + 1, 0, none⟩) (by simp)).trans HR.out.1.1
              have s1 := (HX.out.cell (p := ⟨w.heap.size + 1, 1, none⟩) (by simp)).trans HR.out.1.2.1
              have s2 := (HX.out.cell (p := ⟨w.heap.size + 1, 2, none⟩) (by simp)).trans HR.out.1.2.2
              have r0 := (HX.out.frozen (p := ⟨w.heap.size + 1, 0, none⟩) (by simp)).trans HR.out.2.1
              have r1 := (HX.out.frozen (p := ⟨w.heap.size + 1, 1, none⟩) (by simp)).trans HR.out.2.2.1
              have r2 := (HX.out.frozen (p := ⟨w.heap.size + 1, 2, none⟩) (by simp)).trans HR.out.2.2.2
              go_wp2
              simp [bodyPost, results, Yba.results23, go_sem, s0, s1, s2]
              refine ⟨?_, (((below_drewN HXw.out _).setCell (by simp) _).setCell (by simp) _).setCell (by simp) _⟩
              rw [show findH ID (pred :: (S ++ P)) h = y by
                have := findH_at (A := pred :: A) (C := C) (fun x hx => by
                  rcases List.mem_cons.1 hx with rfl | hx
                  · exact HPQ.out
                  · exact HNo.out x (by rw [HSP.out.2.1]; exact hx)) HG.out.1 hpg HN.out
                rw [HSP.out.1]
                exact this]
              rfl
            | false =>
              go_quiet (fail)
              go_wp2_with fail
              have HPG : Hid ((ID y.c == ID h.c) = false) := hpg
              go_roundw
              case rel =>
                refine ⟨k + 1, by have := HG.out.2; omega, by go_num, below_drewN HX.out _, fun i x hi hx => ?_⟩
                by_cases hik : i = k
                · subst hik; rw [HG.out.1] at hx; cases hx; exact HPG.out
                · exact HN.out i x (by omega) hx
              case measure => have := HG.out.2; simp [intOf]; omega
          · have hkn : k = L.length := by omega
            subst hkn
            have HA : Hid (∀ x ∈ pre3 S P (j + 1), (ID x.c == ID h.c) = false) := fun x hx => by
              rw [HSP.out.2.2.1] at hx
              rcases List.mem_append.1 hx with hx | hx
              · exact HNo.out x (by rw [HSP.out.2.1]; exact hx)
              · exact all_of rfl HN.out x hx
            clear hlt HN HNo
            go_wp2_with fail
            go_roundw
            case rel => exact ⟨j + 1, by have := HSP.out.2.2.2; omega, by go_num, HHb.out, HA.out⟩
            case measure => have := HSP.out.2.2.2; simp [intOf]; omega
      · have hj4 : j = 3 := by omega
        subst hj4
        have hnone : findH ID (pred :: (S ++ P)) h = h := by
          unfold findH
          rw [List.find?_eq_none.2 (fun x hx => ?_)]
          · rfl
          · rcases List.mem_cons.1 hx with rfl | hx
            · simp [HPQ.out]
            · simp [HNo.out x (by simpa [pre3] using hx)]
        have HF : Hid (findH ID (pred :: (S ++ P)) h = h) := hnone
        clear hj3 HNo hnone
        have hbw : Hid (Below w.heap.size w wr) := HB.out.trans (HWr.out.mono (by omega))
        have q0 : wr.cell? ⟨w.heap.size, 0, none⟩ = some (.int .i64 h.node) := (HWr.out.cell (by simp)).trans HC.out.1
        have q1 : wr.cell? ⟨w.heap.size, 1, none⟩ = some (.pointer (some ⟨h.c, 0, none⟩)) := (HWr.out.cell (by simp)).trans HC.out.2.1
        have q2 : wr.cell? ⟨w.heap.size, 2, none⟩ = some (.int .i64 h.links) := (HWr.out.cell (by simp)).trans HC.out.2.2
        have s0 := (HWr.out.cell (p := ⟨w.heap.size + 1, 0, none⟩) (by simp)).trans HR.out.1.1
        have s1 := (HWr.out.cell (p := ⟨w.heap.size + 1, 1, none⟩) (by simp)).trans HR.out.1.2.1
        have s2 := (HWr.out.cell (p := ⟨w.heap.size + 1, 2, none⟩) (by simp)).trans HR.out.1.2.2
        have r0 := (HWr.out.frozen (p := ⟨w.heap.size + 1, 0, none⟩) (by simp)).trans HR.out.2.1
        have r1 := (HWr.out.frozen (p := ⟨w.heap.size + 1, 1, none⟩) (by simp)).trans HR.out.2.2.1
        have r2 := (HWr.out.frozen (p := ⟨w.heap.size + 1, 2, none⟩) (by simp)).trans HR.out.2.2.2
        go_wp2_with fail
        simp [bodyPost, results, Yba.results23, go_sem, s0, s1, s2]
        refine ⟨?_, ((hbw.out.setCell (by simp) _).setCell (by simp) _).setCell (by simp) _⟩
        rw [HF.out]
        rfl
end Go.Proofs.Ybulkdkrk.lawS5587CWhole
