import Derived.Test.YbulkdkqwQEq
namespace Go.Proofs.Ybulkdkqw.lawS5586AWhole
open Go.ChangeShapes Go.WideShapes Go.ChangeAt Go.RowKit

/-- A row of n peers, cell by cell. -/
structure RowM (w : World) (g n : Nat) (M : List MP) : Prop where
  row : ∃ cur, w.heap[g]? = some (.cells cur 45 (0, 0)) ∧ cur.size = n * 3
  len : M.length = n
  cell : ∀ (i : Nat) x, M[i]? = some x → ∀ (j : Nat) u, (E45.cs x)[j]? = some u → w.cell? ⟨g, i * 3 + j, none⟩ = some u

theorem RowM.toSl {w : World} {g n C : Nat} {M : List MP} (h : RowM w g n M) (hC : C ≤ g) (hn : n ≤ 5000) : Sl E45 45 w C (.slice (some ⟨g, 0, none⟩) n n) M := by
  obtain ⟨cur, hcur, hsz⟩ := h.row
  have hfl := flat_len E45 M
  have hs3 : E45.s = 3 := rfl
  refine ⟨hfl, .inr ⟨g, n, cur, by rw [h.len], hC, hcur, by rw [h.len]; exact Nat.le_refl _, by unfold maxLen; omega, hsz, ?_⟩⟩
  rw [h.len]
  apply List.ext_getElem?
  intro t
  by_cases ht : t < n * 3
  · have hi : t / 3 < M.length := by rw [h.len]; omega
    have hx : M[t / 3]? = some M[t / 3] := List.getElem?_eq_getElem hi
    have hj : t % 3 < 3 := Nat.mod_lt _ (by omega)
    have hg := flat_get E45 M (t / 3) _ (t % 3) hx hj
    have hu : (E45.cs M[t / 3])[t % 3]? = some ((E45.cs M[t / 3])[t % 3]'(by rw [E45.len]; exact hj)) := List.getElem?_eq_getElem _
    have hc := h.cell (t / 3) _ hx (t % 3) _ hu
    have ht3 : t / 3 * 3 + t % 3 = t := by omega
    rw [hs3, ht3] at hg
    rw [ht3] at hc
    rw [hg, hu, List.getElem?_take, if_pos (by rw [hs3]; exact ht)]
    simp [World.cell?, hcur] at hc
    simpa using hc
  · rw [List.getElem?_eq_none (by simp [hs3]; omega), List.getElem?_eq_none (by rw [hfl, h.len, hs3]; omega)]

theorem RowM.later {w w' : World} {g n : Nat} {M : List MP} (h : RowM w g n M) (hb : Below w.heap.size w w') : RowM w' g n M := by
  obtain ⟨cur, hcur, hsz⟩ := h.row
  have hl := (Array.getElem?_eq_some_iff.1 hcur).1
  exact ⟨⟨cur, (hb.block g hl).trans hcur, hsz⟩, h.len, fun i x hx j u hu => (hb.cell (p := ⟨g, i * 3 + j, none⟩) hl).trans (h.cell i x hx j u hu)⟩
theorem RowM.lt {w : World} {g n : Nat} {M : List MP} (h : RowM w g n M) : g < w.heap.size := by
  obtain ⟨cur, hcur, _⟩ := h.row
  exact (Array.getElem?_eq_some_iff.1 hcur).1
theorem RowM.frozen {w : World} {g n : Nat} {M : List MP} (h : RowM w g n M) (i : Nat) : w.frozen? ⟨g, i, none⟩ = false := by
  obtain ⟨cur, hcur, _⟩ := h.row
  simp [World.frozen?, hcur]

/-- One peer stored. -/
theorem RowM.put {w : World} {g n i : Nat} {M : List MP} (h : RowM w g n M) (hi : i < n) (q : MP) :
    RowM (((w.setCell ⟨g, i * 3, none⟩ (.int .u64 q.id)).setCell ⟨g, i * 3 + 1, none⟩ (.int .u8 q.st)).setCell ⟨g, i * 3 + 2, none⟩ (.int .u64 q.since)) g n (M.set i q) := by
  obtain ⟨cur, hcur, hsz⟩ := h.row
  obtain ⟨x, hx⟩ : ∃ x, M[i]? = some x := ⟨_, List.getElem?_eq_getElem (by rw [h.len]; exact hi)⟩
  have e0 := h.cell i x hx 0 _ rfl
  have e1 := h.cell i x hx 1 _ rfl
  have e2 := h.cell i x hx 2 _ rfl
  simp only [Nat.add_zero] at e0
  refine ⟨⟨_, heap_setCell_same _ g _ _ 45 _ (heap_setCell_same _ g _ _ 45 _ (heap_setCell_same w g _ cur 45 _ hcur)), by simpa using hsz⟩, by simpa using h.len, fun k y hy j u hu => ?_⟩
  have hj3 : j < 3 := by
    rcases Nat.lt_or_ge j 3 with h | h
    · exact h
    · rw [List.getElem?_eq_none (by rw [E45.len]; exact h)] at hu; cases hu
  rw [List.getElem?_set] at hy
  by_cases e : i = k
  · subst e
    rw [if_pos rfl, if_pos (by rw [h.len]; exact hi)] at hy
    injection hy with hy
    subst hy
    have : j = 0 ∨ j = 1 ∨ j = 2 := by omega
    rcases this with rfl | rfl | rfl
    · simp [E45] at hu; subst hu; simp [go_sem, e0]
    · simp [E45] at hu; subst hu; simp [go_sem, e1]
    · simp [E45] at hu; subst hu; simp [go_sem, e2]
  · rw [if_neg e] at hy
    have hne : ∀ m, m < 3 → (⟨g, i * 3 + m, none⟩ : Addr) ≠ ⟨g, k * 3 + j, none⟩ := fun m hm e' => by injection e' with _ e'; omega
    rw [World.cell?_setCell_other _ _ _ _ (hne 2 (by omega)), World.cell?_setCell_other _ _ _ _ (hne 1 (by omega)), World.cell?_setCell_other _ _ _ _ (show (⟨g, i * 3, none⟩ : Addr) ≠ _ from hne 0 (by omega))]
    exact h.cell k y hy j u hu

/-- Two neighbours. -/
theorem swap_at (A : List MP) (y x : MP) (R : List MP) : ((A ++ y :: x :: R).set (A.length + 1) y).set A.length x = A ++ x :: y :: R := by
  induction A with
  | nil => rfl
  | cons a A ih => simp only [List.cons_append, List.length_cons, List.set_cons_succ, ih]
end Go.Proofs.Ybulkdkqw.lawS5586AWhole
