import Derived.Test.YbulkdkqwQRange
namespace Go.Proofs.Ybulkdkqw.lawS5586AWhole
open Go.ChangeShapes Go.WideShapes Go.ChangeAt Go.RowKit

/-- Of what was there in w, the blocks of X alone may have turned. -/
structure Chg (X : List Nat) (w w' : World) : Prop where
  os : w'.os = w.os
  tape : w'.tape = w.tape
  output : w'.output = w.output
  size : w.heap.size ≤ w'.heap.size
  block : ∀ k, k < w.heap.size → k ∉ X → w'.heap[k]? = w.heap[k]?

theorem Chg.refl (X : List Nat) (w : World) : Chg X w w := ⟨rfl, rfl, rfl, Nat.le_refl _, fun _ _ _ => rfl⟩
theorem Chg.trans {X : List Nat} {a b c : World} (h : Chg X a b) (k : Chg X b c) : Chg X a c :=
  ⟨k.os.trans h.os, k.tape.trans h.tape, k.output.trans h.output, Nat.le_trans h.size k.size, fun i hi hx => (k.block i (Nat.lt_of_lt_of_le hi h.size) hx).trans (h.block i hi hx)⟩
theorem Chg.mono {X Y : List Nat} {a b : World} (h : Chg X a b) (hs : ∀ x ∈ X, x ∈ Y) : Chg Y a b := ⟨h.os, h.tape, h.output, h.size, fun k hk hy => h.block k hk (fun hx => hy (hs k hx))⟩
theorem Chg.drewN {X : List Nat} {a w : World} (h : Chg X a w) (n : Nat) : Chg X a (w.drewN n) := h.trans ⟨rfl, rfl, rfl, Nat.le_refl _, fun _ _ _ => rfl⟩
theorem Chg.of_below {X : List Nat} {w w' : World} (h : Below w.heap.size w w') : Chg X w w' := ⟨h.os, h.tape, h.output, h.size, fun k hk _ => h.block k hk⟩
theorem Chg.of_grown {X : List Nat} {w w' : World} {r : Option Nat} (h : w.grownBy w' r) (hr : ∀ k, r = some k → k ∈ X) : Chg X w w' := ⟨h.os, h.tape, h.output, h.size, fun k hk hx => h.block k hk (fun e => hx (hr k e.symm))⟩
theorem Chg.setCell {X : List Nat} {a w : World} (h : Chg X a w) {p : Addr} (hp : p.block ∈ X) (u : Value) : Chg X a (w.setCell p u) :=
  h.trans ⟨rfl, rfl, rfl, by simp, fun k _ hx => Deep.blk_setCell_other _ _ _ _ (fun e => hx (e ▸ hp))⟩
theorem Chg.setNew {X : List Nat} {a w : World} (h : Chg X a w) {p : Addr} (hp : a.heap.size ≤ p.block) (u : Value) : Chg X a (w.setCell p u) :=
  ⟨h.os, h.tape, h.output, by simpa using h.size, fun k hk hx => (Deep.blk_setCell_other _ _ _ _ (by omega)).trans (h.block k hk hx)⟩
theorem Chg.alloc {X : List Nat} {a w : World} (h : Chg X a w) (o : Obj) : Chg X a (w.alloc o) := h.trans ⟨rfl, rfl, rfl, by simp, fun k hk _ => Deep.blk_alloc_lt _ _ _ hk⟩
theorem Chg.below {X : List Nat} {w w' : World} (h : Chg X w w') {B : Nat} (hB : B ≤ w.heap.size) (hX : ∀ x ∈ X, B ≤ x) : Below B w w' :=
  ⟨h.os, h.tape, h.output, h.size, fun k hk => h.block k (by omega) (fun hx => by have := hX k hx; omega)⟩
theorem Chg.cell {X : List Nat} {w w' : World} (h : Chg X w w') {p : Addr} (hp : p.block < w.heap.size) (hx : p.block ∉ X) : w'.cell? p = w.cell? p := World.cell?_of_block (w := w) (h.block p.block hp hx)

theorem below_drewN {B : Nat} {a w : World} (h : Below B a w) (n : Nat) : Below B a (w.drewN n) := h.trans ⟨rfl, rfl, rfl, Nat.le_refl _, fun _ _ => rfl⟩
theorem nb {B : Nat} {a w : World} (h : Below B a w) (hB : B ≤ a.heap.size) (o : Obj) : Below B a (w.alloc o) := h.alloc (Nat.le_trans hB h.size) o

/-- How an element lies in a row: s cells. -/
structure Enc (α : Type) where
  s : Nat
  cs : α → List Value
  len : ∀ a, (cs a).length = s
  one : ∀ a, ∀ u ∈ cs a, u.oneCell' = true

section
variable {α : Type} (E : Enc α)

def Enc.flat (L : List α) : List Value := L.flatMap E.cs
theorem flat_append (L M : List α) : E.flat (L ++ M) = E.flat L ++ E.flat M := by simp [Enc.flat]
theorem flat_one (x : α) : E.flat [x] = E.cs x := by simp [Enc.flat]
theorem flat_len (L : List α) : (E.flat L).length = L.length * E.s := by
  induction L with
  | nil => simp [Enc.flat]
  | cons h L ih =>
    have : E.flat (h :: L) = E.cs h ++ E.flat L := rfl
    rw [this, List.length_append, ih, E.len, List.length_cons, Nat.add_mul]
    omega
theorem flat_get : ∀ (L : List α) (i : Nat) (x : α) (j : Nat), L[i]? = some x → j < E.s → (E.flat L)[i * E.s + j]? = (E.cs x)[j]?
  | [], i, x, j, e, _ => by simp at e
  | y :: L, 0, x, j, e, hj => by
    simp at e; subst e
    have : E.flat (y :: L) = E.cs y ++ E.flat L := rfl
    rw [this, Nat.zero_mul, Nat.zero_add, List.getElem?_append_left (by rw [E.len]; exact hj)]
  | y :: L, i + 1, x, j, e, hj => by
    simp at e
    have : E.flat (y :: L) = E.cs y ++ E.flat L := rfl
    rw [this, List.getElem?_append_right (by rw [E.len, Nat.add_mul]; omega), E.len]
    rw [show (i + 1) * E.s + j - E.s = i * E.s + j by rw [Nat.add_mul]; omega]
    exact flat_get L i x j e hj

/-- A slice over a row of its own (or nil) that holds L. -/
def Sl (t : TypeId) (w : World) (B : Nat) (v : Value) (L : List α) : Prop := w.ownsRow B t E.s v L.length (E.flat L)

variable {E} {t : TypeId} {w w' : World} {B : Nat} {v : Value} {L : List α}

theorem Sl.nil (w : World) (B : Nat) : Sl E t w B (.slice none 0 0) [] := ⟨by simp [Enc.flat], .inl ⟨rfl, rfl⟩⟩
theorem lt_of_get {i : Nat} {x : α} (e : L[i]? = some x) : i < L.length := by
  rcases Nat.lt_or_ge i L.length with h | h
  · exact h
  · rw [List.getElem?_eq_none h] at e; cases e
/-- The slice's shape. -/
theorem Sl.open (h : Sl E t w B v L) : ∃ ao cap, v = .slice ao L.length cap ∧ (0 < L.length → ∃ g, ao = some ⟨g, 0, none⟩ ∧ B ≤ g ∧ g < w.heap.size ∧ v.ownBlock = some g ∧ (∀ i, w.frozen? ⟨g, i, none⟩ = false) ∧ ∀ (i : Nat) (x : α), L[i]? = some x → ∀ (j : Nat) (u : Value), (E.cs x)[j]? = some u → w.cell? ⟨g, i * E.s + j, none⟩ = some u) := by
  have h0 := h
  rcases h.2 with ⟨rfl, hn⟩ | ⟨g, cap, cur, rfl, hb, hg, hn, hm, hs, ht⟩
  · refine ⟨none, 0, by rw [hn], fun hp => by omega⟩
  · refine ⟨_, cap, rfl, fun _ => ⟨g, rfl, hb, (Array.getElem?_eq_some_iff.1 hg).1, rfl, fun i => by simp [World.frozen?, hg], fun i x hx j u hu => ?_⟩⟩
    have hj : j < E.s := by
      rcases Nat.lt_or_ge j E.s with hj | hj
      · exact hj
      · rw [List.getElem?_eq_none (by rw [E.len]; exact hj)] at hu; cases hu
    have hc := h0.cells (g := g) rfl (i * E.s + j) u (by rw [flat_get E L i x j hx hj]; exact hu)
    have hadd : (⟨g, 0, none⟩ : Addr).add (i * E.s + j) = ⟨g, i * E.s + j, none⟩ := by unfold Addr.add; split <;> simp_all
    rw [hadd] at hc
    exact hc
theorem Sl.le (h : Sl E t w B v L) : L.length ≤ 9223372036854775807 := by
  rcases h.2 with ⟨_, hn⟩ | ⟨g, cap, cur, _, _, _, hn, hm, _⟩
  · omega
  · simp only [maxLen] at hm; omega
theorem Sl.mono {C : Nat} (h : Sl E t w B v L) (hC : C ≤ B) : Sl E t w C v L := by
  refine ⟨h.1, ?_⟩
  rcases h.2 with h | ⟨g, cap, cur, hv, hb, r⟩
  · exact .inl h
  · exact .inr ⟨g, cap, cur, hv, Nat.le_trans hC hb, r⟩
theorem Sl.of_block (h : Sl E t w B v L) (e : ∀ g, v.ownBlock = some g → w'.heap[g]? = w.heap[g]?) : Sl E t w' B v L := by
  refine ⟨h.1, ?_⟩
  rcases h.2 with h | ⟨g, cap, cur, rfl, hb, hg, r⟩
  · exact .inl h
  · exact .inr ⟨g, cap, cur, rfl, hb, (e g rfl).trans hg, r⟩
theorem Sl.lt (h : Sl E t w B v L) {g : Nat} (hg : v.ownBlock = some g) : B ≤ g ∧ g < w.heap.size := World.ownsRow.lt h g hg
theorem Sl.later (h : Sl E t w B v L) (hb : Below w.heap.size w w') : Sl E t w' B v L := h.of_block (fun g hg => hb.block g (h.lt hg).2)
theorem Sl.chg {X : List Nat} (h : Sl E t w B v L) (hc : Chg X w w') (hX : ∀ g, v.ownBlock = some g → g ∉ X) : Sl E t w' B v L := h.of_block (fun g hg => hc.block g (h.lt hg).2 (hX g hg))
/-- The row's block is one of type t. -/
theorem Sl.typed (h : Sl E t w B v L) {g : Nat} (hg : v.ownBlock = some g) : ∃ cur, w.heap[g]? = some (.cells cur t (0, 0)) := by
  rcases h.2 with ⟨rfl, _⟩ | ⟨g', cap, cur, rfl, _, hb, _⟩
  · simp [Value.ownBlock] at hg
  · simp [Value.ownBlock] at hg; subst hg; exact ⟨cur, hb⟩

/-- One cell of the row written. -/
theorem owns_setCell {B s n cap g : Nat} {t : TypeId} {xs : List Value} {w : World} (h : w.ownsRow B t s (.slice (some ⟨g, 0, none⟩) n cap) n xs) {k : Nat} (u : Value) :
    (w.setCell ⟨g, k, none⟩ u).ownsRow B t s (.slice (some ⟨g, 0, none⟩) n cap) n (xs.set k u) := by
  refine ⟨by rw [List.length_set]; exact h.1, ?_⟩
  rcases h.2 with ⟨h1, _⟩ | ⟨g', cap', cur, h1, hb, hg, hn, hm, hs, ht⟩
  · cases h1
  · cases h1
    refine .inr ⟨g, cap, cur.set! k u, rfl, hb, ?_, hn, hm, by simpa using hs, ?_⟩
    · obtain ⟨hlt, hgg⟩ := Array.getElem?_eq_some_iff.1 hg
      simp only [World.setCell]
      simp [hlt, Array.getElem_modify, hgg]
    · rw [← ht]
      apply List.ext_getElem?
      intro i
      simp only [Array.set!_eq_setIfInBounds, Array.toList_setIfInBounds]
      rw [List.getElem?_take, List.getElem?_set, List.getElem?_set]
      by_cases hik : k = i
      · subst hik
        simp only [if_true, List.length_take, Array.length_toList]
        by_cases h1 : k < n * s
        · simp only [if_pos h1]
          by_cases h2 : k < cur.size
          · rw [if_pos h2, if_pos (by omega)]
          · rw [if_neg h2, if_neg (by omega)]
        · rw [if_neg h1, if_neg (by omega)]
      · rw [if_neg hik, if_neg hik, List.getElem?_take]
end
end Go.Proofs.Ybulkdkqw.lawS5586AWhole
