import Derived.Test.YbulkdkqwQIns2
namespace Go.Proofs.Ybulkdkqw.lawS5586AWhole
open Go.ChangeShapes Go.WideShapes Go.ChangeAt Go.RowKit

/-- The first index at which p holds (p rising). -/
def Found (p : Nat → Bool) (n : Nat) (w : World) (e : Ending) (w' : World) : Prop :=
  ∃ i : Nat, e = .returned (.int .i64 i) ∧ i ≤ n ∧ (∀ k, k < i → p k = false) ∧ (∀ k, i ≤ k → k < n → p k = true) ∧ Below w.heap.size w w'

set_option maxRecDepth 100000 in
set_option maxHeartbeats 1000000 in
/-- sort.Search with a closure of two captured variables. -/
theorem search_any (f : FuncId) (c1 c2 : Value) (p : Nat → Bool) (n : Nat) (hn : n ≤ 1000000) (w : World) (hf : ∀ (a b c : Value) (w : World), (callFunc f #[a, b, c]).run Yba.prog w = .ok (.enter f #[a, b, c]) w) (hmono : ∀ j k, j ≤ k → k < n → p j = true → p k = true)
    (hcall : ∀ (k : Nat) (wq : World), k < n → Below w.heap.size w wq → Calls Yba.prog f #[.int .i64 (k : Int), c1, c2] wq fun e w' => e = .returned (.bool (p k)) ∧ Below wq.heap.size wq w') :
    Calls Yba.prog 24 #[.int .i64 n, .func (.func f) #[] #[c1, c2]] w fun e w' => Found p n w e w' := by
  have HC := show Hid _ from hcall
  have HM := show Hid _ from hmono
  clear hcall hmono
  go_enter Yba.func24, Yba.ntmps24
  go_wp2_with fail
  go_loopw [5, 6] (fun a b wr => ∃ i j : Nat, a = .int .i64 i ∧ b = .int .i64 j ∧ i ≤ j ∧ j ≤ n ∧ (∀ k, k < i → p k = false) ∧ (∀ k, j ≤ k → k < n → p k = true) ∧ Below w.heap.size w wr) (fun a b _ => (intOf b).toNat - (intOf a).toNat)
  case atStart => exact ⟨0, n, rfl, rfl, Nat.zero_le _, Nat.le_refl _, fun k hk => by omega, fun k h1 h2 => by omega, Below.refl _ _⟩
  case round =>
    obtain ⟨i, j, rfl, rfl, hij, hjn, hlo, hhi, hb⟩ := hrel
    have HL : Hid (∀ k, k < i → p k = false) := hlo
    have HH : Hid (∀ k, j ≤ k → k < n → p k = true) := hhi
    have HB : Hid (Below w.heap.size w wr) := hb
    clear hlo hhi hb
    by_cases hlt : i < j
    · obtain ⟨h, hh⟩ : ∃ h, (i + j) / 2 = h := ⟨_, rfl⟩
      have HIJ : Hid (i ≤ h ∧ h < j ∧ j ≤ n) := by show i ≤ h ∧ h < j ∧ j ≤ n; omega
      have hI : ((i : Int) + (j : Int)) / 2 = (h : Int) := by omega
      go_wp2_with fail
      refine (HC.out h wr (by have := HIJ.out; omega) HB.out).mono ?_
      rintro e w1 ⟨rfl, hb1⟩
      have HB1 : Hid (Below w.heap.size w w1) := HB.out.trans (hb1.mono HB.out.size)
      clear hb1
      cases hp : p h with
      | true =>
        have HP : Hid (p h = true) := hp
        go_wp2_with fail
        go_roundw
        case rel =>
          refine ⟨i, h, rfl, by simp, HIJ.out.1, by have := HIJ.out; omega, HL.out, fun k h1 h2 => HM.out h k h1 h2 HP.out, HB1.out⟩
        case measure => have := HIJ.out; simp [intOf]; omega
      | false =>
        have HP : Hid (p h = false) := hp
        go_wp2_with fail
        go_roundw
        case rel =>
          refine ⟨h + 1, j, by go_num, rfl, by have := HIJ.out; omega, HIJ.out.2.2, fun k hk => ?_, HH.out, HB1.out⟩
          cases hpk : p k with
          | false => rfl
          | true =>
            have := HM.out k h (by omega) (by have := HIJ.out; omega) hpk
            rw [HP.out] at this
            cases this
        case measure => have := HIJ.out; simp [intOf]; omega
    · have hji : i = j := by omega
      subst hji
      clear hlt
      go_wp2_with fail
      go_ret
      exact ⟨i, rfl, hjn, HL.out, HH.out, HB.out⟩

theorem enter25 (a b c : Value) (w : World) : (callFunc 25 #[a, b, c]).run Yba.prog w = .ok (.enter 25 #[a, b, c]) w := by simp [go_sem]
theorem enter41 (a b c : Value) (w : World) : (callFunc 41 #[a, b, c]).run Yba.prog w = .ok (.enter 41 #[a, b, c]) w := by simp [go_sem]
theorem enter44 (a b c : Value) (w : World) : (callFunc 44 #[a, b, c]).run Yba.prog w = .ok (.enter 44 #[a, b, c]) w := by simp [go_sem]
end Go.Proofs.Ybulkdkqw.lawS5586AWhole
