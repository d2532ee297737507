import Derived.Test.YbulkdkrkASearch
namespace Go.Proofs.Ybulkdkrk.lawS5587AWhole
open Go.ChangeShapes Go.WideShapes Go.ChangeAt Go.RowKit

set_option maxHeartbeats 1000000 in
theorem keep_yes (b bi bs bl bt ba n k : Nat) (I S L T A : Nat → Int) (sd rs gr nd r2 g2 : Int) (ok : Bool) (ld st : Int) (w : World) (hk : k < n) (hst : S k < IntKind.u64.wrap (st + 1))
    (hL : Led w b bi bs bl bt ba n I S L T A sd rs gr nd r2 g2 ok) :
    Calls Yba.prog 21 #[.pointer (some ⟨b, 0, none⟩), .int .i64 k, .agg #[.int .i64 ld, .int .u64 st, .bool true]] w fun e w' => e = .returned (.tuple #[]) ∧ Chg [b, bs, bl] w w' ∧
      Led w' b bi bs bl bt ba n I (upd S k (IntKind.u64.wrap (st + 1))) (upd L k ld) T A sd (IntKind.u64.wrap (rs + 1)) gr nd r2 g2 ok := by
  obtain ⟨c0, c1, c2, c3, c4, c5, c6, _⟩ := hL.cells
  have r1 := hL.stamp.cell hk
  have f1 := hL.stamp.frozen k
  have r2' := hL.load.cell hk
  have f2 := hL.load.frozen k
  have f3 := hL.free 6
  have i1 : (k : Int) < (n : Int) := by omega
  have i0 : (0 : Int) ≤ (k : Int) := by omega
  have HL : Hid (Led w b bi bs bl bt ba n I S L T A sd rs gr nd r2 g2 ok) := hL
  have hlt := hL.lts
  have hnd := hL.nodup
  have lb := hlt b (by simp)
  have lbs := hlt bs (by simp)
  have lbl := hlt bl (by simp)
  simp at hnd
  have d1 : ¬ b = bs := hnd.1.2.1
  have d2 : ¬ b = bl := hnd.1.2.2.1
  have d3 : ¬ bs = bl := hnd.2.2.1.1
  have d1' : ¬ bs = b := fun e => d1 e.symm
  have d2' : ¬ bl = b := fun e => d2 e.symm
  have d3' : ¬ bl = bs := fun e => d3 e.symm
  clear hL hlt hnd
  go_enter Yba.func21, Yba.ntmps21
  go_wp2
  go_region
  all_goals go_wp2
  go_end0
  exact ⟨rfl, (((((Chg.refl _ _).setCell (by simp) _).setCell (by simp) _).setCell (by simp) _).alloc _).drew, ((((HL.out.setS k _).setL k _).setRaised _).chg ((Chg.refl [] _).alloc _) (by simp)).drew⟩

set_option maxHeartbeats 1000000 in
theorem keep_no (b bi bs bl bt ba n k : Nat) (I S L T A : Nat → Int) (sd rs gr nd r2 g2 : Int) (ok heard : Bool) (ld st : Int) (w : World) (hk : k < n) (hst : ¬ (heard = true ∧ S k < IntKind.u64.wrap (st + 1)))
    (hL : Led w b bi bs bl bt ba n I S L T A sd rs gr nd r2 g2 ok) :
    Calls Yba.prog 21 #[.pointer (some ⟨b, 0, none⟩), .int .i64 k, .agg #[.int .i64 ld, .int .u64 st, .bool heard]] w fun e w' => e = .returned (.tuple #[]) ∧ Chg [b, bs, bl] w w' ∧
      Led w' b bi bs bl bt ba n I S L T A sd rs gr nd r2 g2 ok := by
  obtain ⟨c0, c1, c2, c3, c4, c5, c6, _⟩ := hL.cells
  have r1 := hL.stamp.cell hk
  have f1 := hL.stamp.frozen k
  have r2' := hL.load.cell hk
  have f2 := hL.load.frozen k
  have f3 := hL.free 6
  have i1 : (k : Int) < (n : Int) := by omega
  have i0 : (0 : Int) ≤ (k : Int) := by omega
  have HL : Hid (Led w b bi bs bl bt ba n I S L T A sd rs gr nd r2 g2 ok) := hL
  have hlt := hL.lts
  have hnd := hL.nodup
  have lb := hlt b (by simp)
  have lbs := hlt bs (by simp)
  have lbl := hlt bl (by simp)
  simp at hnd
  have d1 : ¬ b = bs := hnd.1.2.1
  have d2 : ¬ b = bl := hnd.1.2.2.1
  have d3 : ¬ bs = bl := hnd.2.2.1.1
  have d1' : ¬ bs = b := fun e => d1 e.symm
  have d2' : ¬ bl = b := fun e => d2 e.symm
  have d3' : ¬ bl = bs := fun e => d3 e.symm
  clear hL hlt hnd
  cases heard with
  | false =>
    go_enter Yba.func21, Yba.ntmps21
    go_wp2
    go_end0
    exact ⟨rfl, (Chg.refl _ _).alloc _, HL.out.chg ((Chg.refl [] _).alloc _) (by simp)⟩
  | true =>
    have h2 : ¬ S k < IntKind.u64.wrap (st + 1) := fun h => hst ⟨rfl, h⟩
    clear hst
    go_enter Yba.func21, Yba.ntmps21
    go_wp2
    go_end0
    exact ⟨rfl, (Chg.refl _ _).alloc _, HL.out.chg ((Chg.refl [] _).alloc _) (by simp)⟩

/-- What keepOwn does to a ledger's stamps, loads and count. -/
def OwnStep (I : Nat → Int) (n : Nat) (x : Int) (heard : Bool) (st ld : Int) (S L : Nat → Int) (rs : Int) (S' L' : Nat → Int) (rs' : Int) : Prop :=
  (∃ k, k < n ∧ I k = x ∧ heard = true ∧ S k < IntKind.u64.wrap (st + 1) ∧ S' = upd S k (IntKind.u64.wrap (st + 1)) ∧ L' = upd L k ld ∧ rs' = IntKind.u64.wrap (rs + 1)) ∨
  ((∀ k, k < n → I k = x → ¬ (heard = true ∧ S k < IntKind.u64.wrap (st + 1))) ∧ S' = S ∧ L' = L ∧ rs' = rs)

theorem search_split {I : Nat → Int} {n : Nat} {x : Int} {w w' : World} {e : Ending} (h : Searched I n x w e w') :
    w' = w ∧ ((∃ k : Nat, k < n ∧ I k = x ∧ e = .returned (.tuple #[.int .i64 k, .bool true])) ∨ ((∀ i, i < n → I i ≠ x) ∧ ∃ k : Nat, e = .returned (.tuple #[.int .i64 k, .bool false]))) := by
  obtain ⟨k, f, rfl, rfl, h1, h2⟩ := h
  refine ⟨rfl, ?_⟩
  cases f with
  | true => exact .inl ⟨k, (h1 rfl).1, (h1 rfl).2, rfl⟩
  | false => exact .inr ⟨h2 rfl, k, rfl⟩

set_option maxHeartbeats 1000000 in
theorem keepOwn_any (b bi bs bl bt ba n : Nat) (I S L T A : Nat → Int) (sd rs gr nd r2 g2 : Int) (ok heard : Bool) (x ld st : Int) (w : World) (hn : n ≤ 1024) (hup : ∀ i j, i < j → j < n → I i < I j)
    (hL : Led w b bi bs bl bt ba n I S L T A sd rs gr nd r2 g2 ok) :
    Calls Yba.prog 16 #[.pointer (some ⟨b, 0, none⟩), .int .u64 x, .agg #[.int .i64 ld, .int .u64 st, .bool heard]] w fun e w' => e = .returned (.tuple #[]) ∧ Chg [b, bs, bl] w w' ∧
      ∃ S' L' rs', OwnStep I n x heard st ld S L rs S' L' rs' ∧ Led w' b bi bs bl bt ba n I S' L' T A sd rs' gr nd r2 g2 ok := by
  obtain ⟨c0, _⟩ := hL.cells
  have HL : Hid (Led w b bi bs bl bt ba n I S L T A sd rs gr nd r2 g2 ok) := hL
  have HU : Hid (∀ i j, i < j → j < n → I i < I j) := hup
  have lb := hL.lts b (by simp)
  clear hL hup
  go_enter Yba.func16, Yba.ntmps16
  go_wp2_with fail
  have h0 : Chg [] w (w.alloc (.cells #[.int .i64 ld, .int .u64 st, .bool heard] 40)) := (Chg.refl [] _).alloc _
  have hL1 := HL.out.chg h0 (by simp)
  refine (search bi n I x hn _ hL1.ids HU.out).mono ?_
  intro e w' hs
  obtain ⟨rfl, ⟨k, hk, hx, rfl⟩ | ⟨hno, k, rfl⟩⟩ := search_split hs
  · by_cases hy : heard = true ∧ S k < IntKind.u64.wrap (st + 1)
    · obtain ⟨rfl, hlt⟩ := hy
      clear hs
      go_wp2_with (go_at_call 21; refine (keep_yes b bi bs bl bt ba n k I S L T A sd rs gr nd r2 g2 ok ld st _ hk hlt hL1).mono ?_; rintro e w' ⟨rfl, hc, hl⟩)
      go_end0
      exact ⟨rfl, (h0.mono (by simp)).trans hc, _, _, _, .inl ⟨k, hk, hx, rfl, hlt, rfl, rfl, rfl⟩, hl⟩
    · clear hs
      go_wp2_with (go_at_call 21; refine (keep_no b bi bs bl bt ba n k I S L T A sd rs gr nd r2 g2 ok heard ld st _ hk hy hL1).mono ?_; rintro e w' ⟨rfl, hc, hl⟩)
      go_end0
      refine ⟨rfl, (h0.mono (by simp)).trans hc, _, _, _, .inr ⟨fun j hj hxj => ?_, rfl, rfl, rfl⟩, hl⟩
      have hjk : j = k := by
        rcases Nat.lt_trichotomy j k with h | h | h
        · have := HU.out j k h hk; omega
        · exact h
        · have := HU.out k j h hj; omega
      subst hjk; exact hy
  · clear hs
    go_wp2_with fail
    go_end0
    exact ⟨rfl, h0.mono (by simp), _, _, _, .inr ⟨fun j hj hxj => absurd hxj (hno j hj), rfl, rfl, rfl⟩, hL1⟩
end Go.Proofs.Ybulkdkrk.lawS5587AWhole
