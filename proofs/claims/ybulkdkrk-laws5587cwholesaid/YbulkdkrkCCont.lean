import Derived.Test.YbulkdkrkCSmall
namespace Go.Proofs.Ybulkdkrk.lawS5587CWhole
open Go.ChangeShapes Go.WideShapes Go.ChangeAt Go.RowKit Go.Proofs.Ybulkdkrk.lawS5587AWhole

/-- The method value h.sameNode. -/
def sameFn (h : H) : Value := .func (.func 30) #[.agg #[.int .i64 h.node, .pointer (some ⟨h.c, 0, none⟩), .int .i64 h.links]] #[]

/-- IndexFunc: the first index, or -1. -/
def Idx (ID : Nat → Int) (L : List H) (h : H) (w : World) (e : Ending) (w' : World) : Prop :=
  ∃ i : Int, e = .returned (.int .i64 i) ∧ (decide (0 ≤ i)) = L.any (fun g => ID h.c == ID g.c) ∧ Below w.heap.size w w'

set_option maxRecDepth 100000 in
theorem index_any (ID : Nat → Int) (L : List H) (h : H) (B : Nat) (v : Value) (w : World) (hL : Hs w B v L) (hi : Ids w ID (h :: L)) :
    Calls Yba.prog 36 #[v, sameFn h] w fun e w' => Idx ID L h w e w' := by
  have mL := hL.len
  obtain ⟨ao, cap, g, rfl, oL⟩ := hL.open
  have HI : Hid (Ids w ID (h :: L)) := hi
  have HL : Hid (0 < L.length → ao = some ⟨g, 0, none⟩ ∧ B ≤ g ∧ Part w g cap L) := oL
  clear hi oL hL
  simp only [sameFn]
  go_enter Yba.func36, Yba.ntmps36
  go_wp2_with fail
  go_loopw [8] (fun i wr => ∃ k : Nat, k ≤ L.length ∧ i = .int .i64 k ∧ Below w.heap.size w wr ∧ ∀ i x, i < k → L[i]? = some x → (ID h.c == ID x.c) = false) (fun i _ => L.length - (intOf i).toNat)
  case atStart => exact ⟨0, Nat.zero_le _, rfl, Below.refl _ _, fun i x hi => by omega⟩
  case round =>
    obtain ⟨k, hk, rfl, hb, hno⟩ := hrel
    have HN : Hid (∀ i x, i < k → L[i]? = some x → (ID h.c == ID x.c) = false) := hno
    have HB : Hid (Below w.heap.size w wr) := hb
    clear hno
    by_cases hlt : k < L.length
    · obtain ⟨rfl, _, hpart⟩ := HL.out (by omega)
      obtain ⟨x, hx⟩ : ∃ g, L[k]? = some g := ⟨_, List.getElem?_eq_getElem hlt⟩
      obtain ⟨c0, c1, c2⟩ := hpart.cell hx
      have HG : Hid (L[k]? = some x ∧ k < L.length) := ⟨hx, hlt⟩
      have hk1 := ((HI.out h (by simp)).of_block (hb.block _ (HI.out h (by simp)).lt)).cell
      have kx := HI.out x (by have := List.mem_of_getElem? hx; simp [this])
      have hk2 := (kx.of_block (hb.block _ kx.lt)).cell
      have d0 := (hb.cell (p := ⟨g, k * 3, none⟩) hpart.lt).trans c0
      have d1 := (hb.cell (p := ⟨g, k * 3 + 1, none⟩) hpart.lt).trans c1
      have d2 := (hb.cell (p := ⟨g, k * 3 + 2, none⟩) hpart.lt).trans c2
      clear hpart c0 c1 c2 hx kx hb
      go_wp2_with fail
      refine (same_any ID h x wr hk1 hk2).mono ?_
      rintro e w1 ⟨rfl, hb1⟩
      have HB1 : Hid (Below w.heap.size w w1) := HB.out.trans (hb1.mono HB.out.size)
      clear hb1 d0 d1 d2 hk1 hk2
      cases hpg : (ID h.c == ID x.c) with
      | true =>
        go_wp2_with fail
        go_ret
        refine ⟨k, rfl, ?_, HB1.out⟩
        have : L.any (fun g => ID h.c == ID g.c) = true := List.any_eq_true.2 ⟨x, List.mem_of_getElem? HG.out.1, hpg⟩
        rw [this]; simp
      | false =>
        have HPG : Hid ((ID h.c == ID x.c) = false) := hpg
        go_wp2_with fail
        go_roundw
        case rel =>
          refine ⟨k + 1, by have := HG.out.2; omega, by go_num, HB1.out, fun i y hi hy => ?_⟩
          by_cases hik : i = k
          · subst hik; rw [HG.out.1] at hy; cases hy; exact HPG.out
          · exact HN.out i y (by omega) hy
        case measure => have := HG.out.2; simp [intOf]; omega
    · have hkn : k = L.length := by omega
      subst hkn
      clear hlt hb
      go_wp2_with fail
      go_ret
      refine ⟨-1, rfl, ?_, HB.out⟩
      have : L.any (fun g => ID h.c == ID g.c) = false := by
        rw [List.any_eq_false]
        intro x hx
        obtain ⟨i, hi, rfl⟩ := List.getElem_of_mem hx
        rw [HN.out i _ hi (List.getElem?_eq_getElem hi)]
        simp
      rw [this]; rfl

/-- ContainsFunc. -/
theorem contains_any (ID : Nat → Int) (L : List H) (h : H) (B : Nat) (v : Value) (w : World) (hL : Hs w B v L) (hi : Ids w ID (h :: L)) :
    Calls Yba.prog 29 #[v, sameFn h] w fun e w' => e = .returned (.bool (L.any (fun g => ID h.c == ID g.c))) ∧ Below w.heap.size w w' := by
  go_enter Yba.func29, Yba.ntmps29
  go_wp2_with fail
  refine (index_any ID L h B v w hL hi).mono ?_
  rintro e w1 ⟨i, rfl, hd, hb1⟩
  have HD : Hid (decide (0 ≤ i) = L.any (fun g => ID h.c == ID g.c)) := hd
  clear hd
  go_wp2_with fail
  go_ret
  exact ⟨by rw [← HD.out]; rfl, hb1⟩
end Go.Proofs.Ybulkdkrk.lawS5587CWhole
