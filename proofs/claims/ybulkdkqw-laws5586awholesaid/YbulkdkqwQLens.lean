import Derived.Test.YbulkdkqwQPlain
namespace Go.Proofs.Ybulkdkqw.lawS5586AWhole
open Go.ChangeShapes Go.WideShapes Go.ChangeAt Go.RowKit

theorem putT_len (T : TT) (o n : Int) (k : KM) : (putT T o n k).length ≤ T.length + 1 := by
  unfold putT
  split
  · simp
  · simp
theorem putT_items {T : TT} {o n : Int} {k : KM} {m : Nat} (h : ∀ t ∈ T, t.2.2.length ≤ m) : ∀ t ∈ putT T o n k, t.2.2.length ≤ m + 1 := by
  intro t ht
  unfold putT at ht
  split at ht
  · obtain ⟨i, hi, e⟩ := List.getElem_of_mem ht
    rw [List.getElem_modify] at e
    split at e
    · rw [← e]
      have h1 := h _ (List.getElem_mem (by simpa using hi))
      exact Nat.le_trans (ins_len _ _) (by omega)
    · rw [← e]
      have h1 := h _ (List.getElem_mem (by simpa using hi))
      omega
  · rcases List.mem_append.1 ht with ht | ht
    · have := h t ht; omega
    · simp at ht; subst ht; simp
theorem putT_mem {T : TT} {o n : Int} {k : KM} {P : KM → Prop} (h : ∀ t ∈ T, ∀ x ∈ t.2.2, P x) (hk : P k) : ∀ t ∈ putT T o n k, ∀ x ∈ t.2.2, P x := by
  intro t ht
  unfold putT at ht
  split at ht
  · obtain ⟨i, hi, e⟩ := List.getElem_of_mem ht
    rw [List.getElem_modify] at e
    split at e
    · rw [← e]
      have h1 := h _ (List.getElem_mem (by simpa using hi))
      intro x hx
      rcases ins_mem _ _ _ hx with hx | hx
      · exact h1 x hx
      · rw [hx]; exact hk
    · rw [← e]
      exact h _ (List.getElem_mem (by simpa using hi))
  · rcases List.mem_append.1 ht with ht | ht
    · exact h t ht
    · simp at ht; subst ht
      intro x hx
      simp at hx
      rw [hx]; exact hk

section
variable {ps : List Peer} {unm ids : List Int} {sf : Int} {up : Int → Int}
theorem stepT_cases (T : TT) (x : Env × Msg) : stepT ps unm ids sf up T x = T ∨ ∃ o, stepT ps unm ids sf up T x = putT T o x.1.name (km x.1 x.2 sf) := by
  unfold stepT
  split
  · split
    · exact .inr ⟨_, rfl⟩
    · exact .inl rfl
  · split
    · exact .inl rfl
    · split
      · exact .inr ⟨_, rfl⟩
      · exact .inl rfl

theorem runT_facts (xs : List (Env × Msg)) : (runT ps unm ids sf up xs).length ≤ xs.length ∧ (∀ t ∈ runT ps unm ids sf up xs, t.2.2.length ≤ xs.length) ∧ ∀ t ∈ runT ps unm ids sf up xs, ∀ k ∈ t.2.2, ∃ y ∈ xs, k = km y.1 y.2 sf := by
  have key : ∀ (xs : List (Env × Msg)) (T : TT) (m : Nat) (P : KM → Prop), T.length ≤ m → (∀ t ∈ T, t.2.2.length ≤ m) → (∀ t ∈ T, ∀ k ∈ t.2.2, P k) → (∀ y ∈ xs, P (km y.1 y.2 sf)) → (xs.foldl (stepT ps unm ids sf up) T).length ≤ m + xs.length ∧ (∀ t ∈ xs.foldl (stepT ps unm ids sf up) T, t.2.2.length ≤ m + xs.length) ∧ ∀ t ∈ xs.foldl (stepT ps unm ids sf up) T, ∀ k ∈ t.2.2, P k := by
    intro xs
    induction xs with
    | nil => intro T m P h1 h2 h3 _; exact ⟨h1, h2, h3⟩
    | cons x xs ih =>
      intro T m P h1 h2 h3 h4
      rw [List.foldl_cons]
      have hx := h4 x (by simp)
      have hs : (stepT ps unm ids sf up T x).length ≤ m + 1 ∧ (∀ t ∈ stepT ps unm ids sf up T x, t.2.2.length ≤ m + 1) ∧ ∀ t ∈ stepT ps unm ids sf up T x, ∀ k ∈ t.2.2, P k := by
        rcases stepT_cases (ps := ps) (unm := unm) (ids := ids) (sf := sf) (up := up) T x with e | ⟨o, e⟩
        · rw [e]; exact ⟨by omega, fun t ht => by have := h2 t ht; omega, h3⟩
        · rw [e]; exact ⟨Nat.le_trans (putT_len _ _ _ _) (by omega), putT_items h2, putT_mem h3 hx⟩
      have := ih _ (m + 1) P hs.1 hs.2.1 hs.2.2 (fun y hy => h4 y (by simp [hy]))
      simp only [List.length_cons]
      refine ⟨by omega, fun t ht => ?_, this.2.2⟩
      have := this.2.1 t ht
      omega
  have := key xs [] 0 (fun k => ∃ y ∈ xs, k = km y.1 y.2 sf) (by simp) (by simp) (by simp) (fun y hy => ⟨y, hy, rfl⟩)
  rw [Nat.zero_add] at this
  exact this

theorem nowF_len (p : Peer) (tt : List Int) : (nowF ps ids sf p tt).length ≤ tt.length := by
  unfold nowF
  split
  · split
    · exact Nat.le_refl _
    · simp
  · exact Nat.le_refl _
theorem runG_facts (xs : List (Env × Msg)) : ∀ x ∈ runG ps ids sf xs, (∃ y ∈ xs, x.1 = y.2) ∧ x.2.length ≤ ids.length := by
  have key : ∀ (xs : List (Env × Msg)) (G : List (Msg × List Int)) (P : Msg → Prop), (∀ x ∈ G, P x.1 ∧ x.2.length ≤ ids.length) → (∀ y ∈ xs, P y.2) → ∀ x ∈ xs.foldl (stepG ps ids sf) G, P x.1 ∧ x.2.length ≤ ids.length := by
    intro xs
    induction xs with
    | nil => intro G P h _; exact h
    | cons y xs ih =>
      intro G P h h4
      rw [List.foldl_cons]
      refine ih _ P ?_ (fun z hz => h4 z (by simp [hz]))
      intro x hx
      unfold stepG at hx
      split at hx
      · exact h x hx
      · split at hx
        · exact h x hx
        · split at hx
          · rcases List.mem_append.1 hx with hx | hx
            · exact h x hx
            · simp at hx
              subst hx
              exact ⟨h4 y (by simp), Nat.le_trans (nowF_len _ _) (List.length_filter_le _ _)⟩
          · exact h x hx
  exact key xs [] (fun g => ∃ y ∈ xs, g = y.2) (by simp) (fun y hy => ⟨y, hy, rfl⟩)
end
end Go.Proofs.Ybulkdkqw.lawS5586AWhole
