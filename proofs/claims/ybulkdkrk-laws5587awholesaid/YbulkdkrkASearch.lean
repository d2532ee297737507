import Derived.Test.YbulkdkrkABuild
namespace Go.Proofs.Ybulkdkrk.lawS5587AWhole
open Go.ChangeShapes Go.WideShapes Go.ChangeAt Go.RowKit

theorem nan27 (x : Int) (w : World) : Calls Yba.prog 27 #[.int .u64 x] w fun e w' => e = .returned (.bool false) ∧ w' = w := by
  go_enter Yba.func27, Yba.ntmps27
  go_wp2
  go_ret
  exact ⟨by simp, rfl⟩
theorem nan35 (x : Int) (w : World) : Calls Yba.prog 35 #[.int .u64 x] w fun e w' => e = .returned (.bool false) ∧ w' = w := by
  go_enter Yba.func35, Yba.ntmps35
  go_wp2
  go_ret
  exact ⟨by simp, rfl⟩
theorem less26 (x y : Int) (w : World) : Calls Yba.prog 26 #[.int .u64 x, .int .u64 y] w fun e w' => e = .returned (.bool (decide (x < y))) ∧ w' = w := by
  go_enter Yba.func26, Yba.ntmps26
  go_wp2_with (go_at_call 35; refine (nan35 _ _).mono ?_; rintro e w' ⟨rfl, rfl⟩)
  go_ret
  exact ⟨rfl, rfl⟩

theorem lo_step {I : Nat → Int} {x : Int} {n m : Nat} (hup : ∀ i j, i < j → j < n → I i < I j) (hm : m < n) (h : I m < x) : ∀ t, t < m + 1 → I t < x := by
  intro t ht
  by_cases e : t = m
  · subst e; exact h
  · have := hup t m (by omega) hm; omega
theorem hi_step {I : Nat → Int} {x : Int} {n m : Nat} (hup : ∀ i j, i < j → j < n → I i < I j) (h : x ≤ I m) : ∀ t, m ≤ t → t < n → x ≤ I t := by
  intro t ht hn
  by_cases e : t = m
  · subst e; exact h
  · have := hup m t (by omega) hn; omega

/-- What BinarySearch leaves. -/
def Searched (I : Nat → Int) (n : Nat) (x : Int) (w : World) (e : Ending) (w' : World) : Prop :=
  ∃ k : Nat, ∃ f : Bool, e = .returned (.tuple #[.int .i64 k, .bool f]) ∧ w' = w ∧ (f = true → k < n ∧ I k = x) ∧ (f = false → ∀ i, i < n → I i ≠ x)

set_option maxHeartbeats 1000000 in
/-- slices.BinarySearch over a rising row of uint64. -/
theorem search (g n : Nat) (I : Nat → Int) (x : Int) (hn : n ≤ 1024) (w : World) (hrow : w.rowIs g 23 n (fun i => .int .u64 (I i))) (hup : ∀ i j, i < j → j < n → I i < I j) :
    Calls Yba.prog 20 #[.slice (some ⟨g, 0, none⟩) n n, .int .u64 x] w fun e w' => Searched I n x w e w' := by
  go_enter Yba.func20, Yba.ntmps20
  go_wp2
  go_loop [7, 8] (fun i j => ∃ a c : Nat, a ≤ c ∧ c ≤ n ∧ i = .int .i64 a ∧ j = .int .i64 c ∧ (∀ t, t < a → I t < x) ∧ (∀ t, c ≤ t → t < n → x ≤ I t)) (fun i j => ((intOf j).toNat - (intOf i).toNat))
  case atStart => exact ⟨0, n, Nat.zero_le _, Nat.le_refl _, rfl, rfl, fun t h => by omega, fun t h h' => by omega⟩
  case round =>
    obtain ⟨a, c, hac, hcn, rfl, rfl, hlo, hhi⟩ := hrel
    by_cases hlt : a < c
    · have hcell := hrow.cell (show (a + c) / 2 < n by omega)
      have HH : Hid ((∀ t, t < a → I t < x) ∧ (∀ t, c ≤ t → t < n → x ≤ I t)) := ⟨hlo, hhi⟩
      clear hlo hhi
      go_wp2_with (go_at_call 26; refine (less26 _ _ _).mono ?_; rintro e w' ⟨rfl, rfl⟩)
      · go_round
        case rel => exact ⟨(a + c) / 2 + 1, c, by omega, hcn, by go_num, rfl, lo_step hup (by omega) ‹_›, HH.out.2⟩
        case measure => simp [intOf]; omega
      · go_round
        case rel => exact ⟨a, (a + c) / 2, by omega, by omega, rfl, by go_num, HH.out.1, hi_step hup ‹_›⟩
        case measure => simp [intOf]; omega
    · have hca : c = a := by omega
      subst hca
      by_cases hcn' : c < n
      · have hcell := hrow.cell hcn'
        by_cases hx : I c = x
        · have hxb : (I c == x) = true := by simp [hx]
          have HH : Hid (I c = x) := hx
          clear hlo hhi hx
          go_wp2_with (go_at_call 27; refine (nan27 _ _).mono ?_; rintro e w' ⟨rfl, rfl⟩)
          go_ret2
          exact ⟨c, true, rfl, rfl, fun _ => ⟨hcn', HH.out⟩, fun h => (by cases h)⟩
        · have hxb : (I c == x) = false := by simp [hx]
          have HH : Hid (∀ i, i < n → I i ≠ x) := fun i hi e => by
            by_cases h1 : i < c
            · have := hlo i h1; omega
            · by_cases h2 : i = c
              · subst h2; exact hx e
              · have := hup c i (by omega) hi; have := hhi c (Nat.le_refl _) hcn'; omega
          clear hlo hhi hx
          go_wp2_with (go_at_call 27; refine (nan27 _ _).mono ?_; rintro e w' ⟨rfl, rfl⟩)
          go_ret2
          exact ⟨c, false, rfl, rfl, fun h => (by cases h), fun _ => HH.out⟩
      · have HH : Hid (∀ i, i < n → I i ≠ x) := fun i hi e => by have := hlo i (by omega); omega
        clear hlo hhi
        go_wp2_with (go_at_call 27; refine (nan27 _ _).mono ?_; rintro e w' ⟨rfl, rfl⟩)
        go_ret2
        exact ⟨c, false, rfl, rfl, fun h => (by cases h), fun _ => HH.out⟩
end Go.Proofs.Ybulkdkrk.lawS5587AWhole
