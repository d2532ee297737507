import Derived.Test.YbulkdkrkABase
import Derived.Laws.AppendOwn
namespace Go.Proofs.Ybulkdkrk.lawS5587CWhole
open Go.ChangeShapes Go.WideShapes Go.ChangeAt Go.RowKit Go.Proofs.Ybulkdkrk.lawS5587AWhole

/-- A held node: number, the block of its contact, in-links. -/
structure H where
  node : Int
  c : Nat
  links : Int
deriving DecidableEq

def H.v0 (h : H) : Value := .int .i64 h.node
def H.v1 (h : H) : Value := .pointer (some ⟨h.c, 0, none⟩)
def H.v2 (h : H) : Value := .int .i64 h.links
/-- The value of a held node. -/
def H.val (h : H) : Value := .agg #[.int .i64 h.node, .pointer (some ⟨h.c, 0, none⟩), .int .i64 h.links]
def H.cs (h : H) : List Value := [.int .i64 h.node, .pointer (some ⟨h.c, 0, none⟩), .int .i64 h.links]
def flat (L : List H) : List Value := L.flatMap H.cs

theorem flat_nil : flat [] = [] := rfl
theorem flat_cons (h : H) (L : List H) : flat (h :: L) = h.cs ++ flat L := rfl
theorem flat_append (L M : List H) : flat (L ++ M) = flat L ++ flat M := by simp [flat]
theorem flat_len (L : List H) : (flat L).length = L.length * 3 := by
  induction L with
  | nil => rfl
  | cons h L ih => rw [flat_cons, List.length_append, ih]; simp [H.cs]; omega
theorem flat_get (L : List H) : ∀ (i : Nat) (h : H), L[i]? = some h → (flat L)[i * 3]? = some h.v0 ∧ (flat L)[i * 3 + 1]? = some h.v1 ∧ (flat L)[i * 3 + 2]? = some h.v2 := by
  induction L with
  | nil => intro i h e; simp at e
  | cons x L ih =>
    intro i h e
    cases i with
    | zero => simp at e; subst e; simp [flat_cons, H.cs, H.v0, H.v1, H.v2]
    | succ i =>
      simp at e
      obtain ⟨a, b, c⟩ := ih i h e
      have hs : ∀ r, (flat (x :: L))[(i + 1) * 3 + r]? = (flat L)[i * 3 + r]? := fun r => by
        rw [flat_cons, List.getElem?_append_right (by simp [H.cs]; omega)]
        congr 1
        simp [H.cs]; omega
      exact ⟨by simpa using (hs 0).trans a, (hs 1).trans b, (hs 2).trans c⟩

/-- Row g holds the entries of L from its head on. -/
def Part (w : World) (g cap : Nat) (L : List H) : Prop :=
  ∃ f, w.rowIs g 64 (cap * 3) f ∧ L.length ≤ cap ∧ ∀ i h, L[i]? = some h → f (i * 3) = h.v0 ∧ f (i * 3 + 1) = h.v1 ∧ f (i * 3 + 2) = h.v2

/-- WHAT IS KNOWN OF A SLICE OF HELD NODES. -/
def Hs (w : World) (B : Nat) (v : Value) (L : List H) : Prop :=
  (v = .slice none 0 0 ∧ L = []) ∨ ∃ g cap, v = .slice (some ⟨g, 0, none⟩) L.length cap ∧ B ≤ g ∧ Part w g cap L ∧ cap ≤ maxLen

section
variable {w w' : World} {g cap B : Nat} {v : Value} {L : List H}

theorem lt_of_get {i : Nat} {h : H} (e : L[i]? = some h) : i < L.length := by
  rcases Nat.lt_or_ge i L.length with hi | hi
  · exact hi
  · rw [List.getElem?_eq_none hi] at e; cases e

theorem Part.lt (h : Part w g cap L) : g < w.heap.size := by obtain ⟨f, hr, _⟩ := h; exact hr.lt
theorem Part.of_block (h : Part w g cap L) (e : w'.heap[g]? = w.heap[g]?) : Part w' g cap L := by obtain ⟨f, hr, r⟩ := h; exact ⟨f, hr.of_block e, r⟩
theorem Part.cell (h : Part w g cap L) {i : Nat} {x : H} (e : L[i]? = some x) :
    w.cell? ⟨g, i * 3, none⟩ = some (.int .i64 x.node) ∧ w.cell? ⟨g, i * 3 + 1, none⟩ = some (.pointer (some ⟨x.c, 0, none⟩)) ∧ w.cell? ⟨g, i * 3 + 2, none⟩ = some (.int .i64 x.links) := by
  obtain ⟨f, hr, hl, hf⟩ := h
  have hi := lt_of_get e
  obtain ⟨a, b, c⟩ := hf i x e
  exact ⟨(hr.cell (by omega)).trans (by rw [a]; rfl), (hr.cell (by omega)).trans (by rw [b]; rfl), (hr.cell (by omega)).trans (by rw [c]; rfl)⟩
theorem Part.frozen (h : Part w g cap L) (i : Nat) : w.frozen? ⟨g, i, none⟩ = false := by obtain ⟨f, hr, _⟩ := h; exact hr.frozen i

/-- The three cells of entry k written. -/
def set3 (w : World) (g k : Nat) (x : H) : World :=
  ((w.setCell ⟨g, k * 3, none⟩ (.int .i64 x.node)).setCell ⟨g, k * 3 + 1, none⟩ (.pointer (some ⟨x.c, 0, none⟩))).setCell ⟨g, k * 3 + 2, none⟩ (.int .i64 x.links)

theorem Part.put (h : Part w g cap L) {k : Nat} (x : H) (M : List H) (hM : M.length ≤ cap) (hget : ∀ i y, M[i]? = some y → (i = k ∧ y = x) ∨ (i ≠ k ∧ L[i]? = some y)) : Part (set3 w g k x) g cap M := by
  obtain ⟨f, hr, hl, hf⟩ := h
  refine ⟨_, ((hr.set (k * 3) _).set (k * 3 + 1) _).set (k * 3 + 2) _, hM, fun i y e => ?_⟩
  rcases hget i y e with ⟨rfl, rfl⟩ | ⟨hne, e'⟩
  · exact ⟨by rw [if_neg (by omega), if_neg (by omega), if_pos rfl]; rfl, by rw [if_neg (by omega), if_pos rfl]; rfl, by rw [if_pos rfl]; rfl⟩
  · obtain ⟨a, b, c⟩ := hf i y e'
    exact ⟨by rw [if_neg (by omega), if_neg (by omega), if_neg (by omega)]; exact a, by rw [if_neg (by omega), if_neg (by omega), if_neg (by omega)]; exact b, by rw [if_neg (by omega), if_neg (by omega), if_neg (by omega)]; exact c⟩

/-- .. the next one. -/
theorem Part.push (h : Part w g cap L) (x : H) (hc : L.length < cap) : Part (set3 w g L.length x) g cap (L ++ [x]) := by
  refine h.put x _ (by simp; omega) (fun i y e => ?_)
  by_cases hi : i = L.length
  · subst hi; simp at e; exact .inl ⟨rfl, e.symm⟩
  · have hlt := lt_of_get e
    simp at hlt
    rw [List.getElem?_append_left (by omega)] at e
    exact .inr ⟨hi, e⟩

/-- .. one that was there. -/
theorem Part.turn (h : Part w g cap L) (k : Nat) (x : H) : Part (set3 w g k x) g cap (L.set k x) := by
  refine h.put x _ (by obtain ⟨_, _, hl, _⟩ := h; simpa using hl) (fun i y e => ?_)
  rw [List.getElem?_set] at e
  split at e
  · next hk => subst hk; split at e
               · simp at e; exact .inl ⟨rfl, e.symm⟩
               · simp at e
  · next hk => exact .inr ⟨fun h => hk h.symm, e⟩

theorem Part.zero (w : World) (cap : Nat) (z : Array Value) : Part (w.alloc (.cells (madeCells z (cap * 3)) 64)) w.heap.size cap [] := by
  refine ⟨fun i => (madeCells z (cap * 3)).getD i default, ⟨_, Deep.blk_alloc_new _ _, size_madeCells _ _, fun i hi => ?_⟩, by simp, fun i h e => by simp at e⟩
  simp [Array.getD, size_madeCells, hi]

theorem Hs.of_owns (h : w.ownsRow B 64 3 v L.length (flat L)) : Hs w B v L := by
  rcases h.2 with ⟨hv, hn⟩ | ⟨g, cap, cur, hv, hb, hg, hn, hm, hs, ht⟩
  · exact .inl ⟨hv, List.eq_nil_of_length_eq_zero hn⟩
  · refine .inr ⟨g, cap, hv, hb, ⟨fun i => cur.getD i default, ⟨cur, hg, hs, fun i hi => ?_⟩, hn, fun i h e => ?_⟩, hm⟩
    · simp [Array.getD, hs, hi]
    · have hi := lt_of_get e
      obtain ⟨a, b, c⟩ := flat_get L i h e
      rw [← ht, List.getElem?_take] at a b c
      rw [if_pos (by omega)] at a b c
      simp only [Array.getElem?_toList] at a b c
      simp [Array.getD_eq_getD_getElem?, a, b, c]

theorem Hs.owns (h : Hs w B v L) : w.ownsRow B 64 3 v L.length (flat L) := by
  refine ⟨flat_len L, ?_⟩
  rcases h with ⟨hv, rfl⟩ | ⟨g, cap, hv, hb, ⟨f, ⟨cur, hg, hs, hc⟩, hl, hf⟩, hm⟩
  · exact .inl ⟨hv, rfl⟩
  · refine .inr ⟨g, cap, cur, hv, hb, hg, hl, hm, hs, ?_⟩
    apply List.ext_getElem?
    intro j
    rw [List.getElem?_take]
    by_cases hj : j < L.length * 3
    · rw [if_pos hj]
      have hi : j / 3 < L.length := by omega
      have he : L[j / 3]? = some L[j / 3] := List.getElem?_eq_getElem hi
      obtain ⟨a, b, c⟩ := flat_get L (j / 3) _ he
      obtain ⟨a', b', c'⟩ := hf (j / 3) _ he
      have h3 : j = j / 3 * 3 ∨ j = j / 3 * 3 + 1 ∨ j = j / 3 * 3 + 2 := by omega
      rw [Array.getElem?_toList, hc j (by omega)]
      rcases h3 with e | e | e
      · rw [← e] at a a'; rw [a, a']
      · rw [← e] at b b'; rw [b, b']
      · rw [← e] at c c'; rw [c, c']
    · rw [if_neg hj, List.getElem?_eq_none (by rw [flat_len]; omega)]

/-- The slice's shape, nil or not. -/
theorem Hs.open (h : Hs w B v L) : ∃ ao cap g, v = .slice ao L.length cap ∧ (0 < L.length → ao = some ⟨g, 0, none⟩ ∧ B ≤ g ∧ Part w g cap L) := by
  rcases h with ⟨rfl, rfl⟩ | ⟨g, cap, rfl, hb, hp, hm⟩
  · exact ⟨none, 0, 0, rfl, fun h => by simp at h⟩
  · exact ⟨_, cap, g, rfl, fun _ => ⟨rfl, hb, hp⟩⟩

theorem Hs.len (h : Hs w B v L) : L.length ≤ 9223372036854775807 := by
  rcases h with ⟨_, rfl⟩ | ⟨g, cap, _, _, ⟨_, _, hl, _⟩, hm⟩
  · simp
  · simp only [maxLen] at hm; omega
theorem Hs.nil (w : World) (B : Nat) : Hs w B (.slice none 0 0) [] := .inl ⟨rfl, rfl⟩
theorem Hs.mono {C : Nat} (h : Hs w B v L) (hC : C ≤ B) : Hs w C v L := by
  rcases h with h | ⟨g, cap, hv, hb, r⟩
  · exact .inl h
  · exact .inr ⟨g, cap, hv, by omega, r⟩
theorem Hs.later (h : Hs w B v L) (hb : Below w.heap.size w w') : Hs w' B v L := by
  rcases h with h | ⟨g, cap, hv, hB, hp, hm⟩
  · exact .inl h
  · exact .inr ⟨g, cap, hv, hB, hp.of_block (hb.block g hp.lt), hm⟩
theorem Hs.chg {X : List Nat} (h : Hs w B v L) (hc : Chg X w w') (hX : ∀ x ∈ X, x < B) : Hs w' B v L := by
  rcases h with h | ⟨g, cap, hv, hB, hp, hm⟩
  · exact .inl h
  · exact .inr ⟨g, cap, hv, hB, hp.of_block (hc.block g hp.lt (fun hx => by have := hX g hx; omega)), hm⟩
end

/-- Block c is a contact, its ID 'ID c'. -/
def Known (w : World) (ID : Nat → Int) (c : Nat) : Prop := ∃ ca, w.heap[c]? = some (.cells ca 59 (0, 0)) ∧ ca[0]? = some (.int .u64 (ID c))
section
variable {w w' : World} {ID : Nat → Int} {c : Nat} {L M : List H}
theorem Known.cell (h : Known w ID c) : w.cell? ⟨c, 0, none⟩ = some (.int .u64 (ID c)) := by
  obtain ⟨ca, hc, h0⟩ := h
  simp [World.cell?, hc, h0]
theorem Known.lt (h : Known w ID c) : c < w.heap.size := by
  obtain ⟨ca, hc, h0⟩ := h
  exact (Array.getElem?_eq_some_iff.1 hc).1
theorem Known.of_block (h : Known w ID c) (e : w'.heap[c]? = w.heap[c]?) : Known w' ID c := by
  obtain ⟨ca, hc, h0⟩ := h
  exact ⟨ca, e.trans hc, h0⟩
/-- The IDs of the contacts that the nodes of L hold. -/
def Ids (w : World) (ID : Nat → Int) (L : List H) : Prop := ∀ h ∈ L, Known w ID h.c
theorem Ids.later (h : Ids w ID L) (hb : Below w.heap.size w w') : Ids w' ID L := fun x hx => (h x hx).of_block (hb.block _ (h x hx).lt)
theorem Ids.sub (h : Ids w ID L) (hs : ∀ x ∈ M, x ∈ L) : Ids w ID M := fun x hx => h x (hs x hx)
theorem Ids.chg {X : List Nat} (h : Ids w ID L) (hc : Chg X w w') (hX : ∀ x ∈ X, ∀ ca, w.heap[x]? ≠ some (.cells ca 59 (0, 0))) : Ids w' ID L := fun x hx => by
  obtain ⟨ca, he, h0⟩ := h x hx
  exact (h x hx).of_block (hc.block _ (h x hx).lt (fun hm => hX _ hm ca he))
end
end Go.Proofs.Ybulkdkrk.lawS5587CWhole
