import Derived.Test.YbulkdkqwQLack
/-! A REGION THAT DRAWS ITS ORDER, BY AN INVARIANT: one step an operation, whatever the order (in the place of one walk an order). -/
namespace Go.Proofs.Ybulkdkqw.lawS5586AWhole
open Go.RowKit

section
variable {P : Program} {ops : Array Oper} {Q : Exit → Act → World → Prop}

theorem count_set : ∀ (l : List Bool) (i : Nat), l[i]? = some false → (l.set i true).count false + 1 = l.count false
  | [], i, h => by simp at h
  | x :: r, 0, h => by
    simp at h
    subst h
    simp
  | x :: r, i + 1, h => by
    have ih := count_set r i (by simpa using h)
    simp only [List.set_cons_succ, List.count_cons]
    omega

theorem wpAny_inv (I : Array Bool → Act → World → Prop)
    (step : ∀ l a w i, l.size = ops.size → I l a w → i ∈ Region.ready .any ops l → wpOp P ops Q i (I (l.setIfInBounds i true)) a w)
    (done : ∀ l a w, l.size = ops.size → I l a w → Region.ready .any ops l = [] → Q .normal a w) :
    ∀ (fuel : Nat) (l : Array Bool) (a : Act) (w : World), l.size = ops.size → l.toList.count false ≤ fuel → I l a w → wpAny P .any ops Q fuel l a w
  | 0, l, a, w, hs, hc, hI => by
    have hr : Region.ready .any ops l = [] := by
      cases h : Region.ready .any ops l with
      | nil => rfl
      | cons i r =>
        have hm : i ∈ Region.ready .any ops l := by rw [h]; exact List.mem_cons_self
        obtain ⟨h1, o, ho, _⟩ := mem_ready.1 hm
        have hlt : i < l.size := by rw [hs]; exact (Array.getElem?_eq_some_iff.1 ho).1
        have : l.toList[i]? = some false := by simp [hlt] at h1 ⊢; exact h1
        have := count_set _ _ this
        omega
    exact ⟨hr, done l a w hs hI hr⟩
  | fuel + 1, l, a, w, hs, hc, hI => by
    refine ⟨fun hr => done l a w hs hI hr, fun i hi => ?_⟩
    refine wpOp_mono (fun a' w' h' => wpAny_inv I step done fuel _ a' w' (by simpa using hs) ?_ h') (step l a w i hs hI hi)
    obtain ⟨h1, o, ho, _⟩ := mem_ready.1 hi
    have hlt : i < l.size := by rw [hs]; exact (Array.getElem?_eq_some_iff.1 ho).1
    have : l.toList[i]? = some false := by simp [hlt] at h1 ⊢; exact h1
    have := count_set _ _ this
    simp only [Array.toList_setIfInBounds]
    omega

/-- 'd i': operation i has been carried out. -/
theorem wp_region_inv {id : Nat} {a : Act} {w : World} (hm : P.follows .mixedOrders = true) (hback : ∀ (i : Nat) (o : Oper), ops[i]? = some o → ∀ e ∈ o.after, Region.binds .any e = true → e.on < i) (I : (Nat → Bool) → Act → World → Prop)
    (h0 : I (fun _ => false) a w.drew)
    (step : ∀ d a w i o, I d a w → ops[i]? = some o → d i = false → (∀ e ∈ o.after, Region.binds .any e = true → d e.on = true) → wpOp P ops Q i (I (fun j => if j = i then true else d j)) a w)
    (done : ∀ d a w, I d a w → (∀ i, i < ops.size → d i = true) → Q .normal a w) : (Code.region id ops true).wp P Q a w := by
  refine wp_region_any hm ?_
  refine wpAny_inv (fun l a w => I (fun j => l.getD j false) a w) ?_ ?_ ops.size _ a _ (by simp) (by simp) ?_
  · intro l a w i hs hI hi
    obtain ⟨h1, o, ho, h2⟩ := mem_ready.1 hi
    have hlt : i < l.size := by rw [hs]; exact (Array.getElem?_eq_some_iff.1 ho).1
    have e : (fun j => (l.setIfInBounds i true).getD j false) = fun j => if j = i then true else l.getD j false := by
      funext j
      by_cases h : j = i
      · subst h; simp [hlt]
      · rw [if_neg h]; exact getD_set_ne false (fun e => h e.symm)
    show wpOp P ops Q i (fun a w => I (fun j => (l.setIfInBounds i true).getD j false) a w) a w
    rw [e]
    exact step _ a w i o hI ho (by simp [hlt] at h1 ⊢; exact h1) h2
  · intro l a w hs hI hr
    refine done _ a w hI ?_
    intro i
    induction i using Nat.strongRecOn with
    | ind i ih =>
      intro hi
      cases hd : l.getD i false with
      | true => rfl
      | false =>
        exfalso
        have hm : i ∈ Region.ready .any ops l := by
          have hio : ops[i]? = some ops[i] := Array.getElem?_eq_getElem hi
          refine mem_ready.2 ⟨?_, ops[i], hio, fun e he hbd => ih e.on (hback i _ hio e he hbd) (Nat.lt_trans (hback i _ hio e he hbd) hi)⟩
          have hlt : i < l.size := by omega
          simp [hlt] at hd ⊢
          exact hd
        rw [hr] at hm
        simp at hm
  · have : (fun j => (Array.replicate ops.size false).getD j false) = fun _ => false := by
      funext j
      simp [Array.getD]
    show I (fun j => (Array.replicate ops.size false).getD j false) a _
    rw [this]
    exact h0

def backB (ops : Array Oper) : Bool := (List.range ops.size).all fun i => (ops[i]?).all fun o => o.after.all fun e => !Region.binds .any e || decide (e.on < i)
theorem back_of (h : backB ops = true) : ∀ (i : Nat) (o : Oper), ops[i]? = some o → ∀ e ∈ o.after, Region.binds .any e = true → e.on < i := by
  intro i o ho e he hbd
  have hi : i < ops.size := (Array.getElem?_eq_some_iff.1 ho).1
  have h1 := List.all_eq_true.1 h i (List.mem_range.2 hi)
  rw [ho] at h1
  have h2 : o.after.all (fun e => !Region.binds .any e || decide (e.on < i)) = true := h1
  have h3 := Array.all_eq_true_iff_forall_mem.1 h2 e he
  simpa [hbd] using h3

/-- A plain operation (no guard) is wanted. -/
theorem wpOp_plain {i : Nat} {o : Oper} {K : Act → World → Prop} {a : Act} {w : World} (ho : ops[i]? = some o) (hg : o.guard = none) (h : o.wp P a w K Q) : wpOp P ops Q i K a w := by
  unfold wpOp
  rw [ho]
  simp only [Region.wanted, hg, if_true]
  exact .inl h
end
end Go.Proofs.Ybulkdkqw.lawS5586AWhole
