import Derived.Test.YbulkdkrkACheck
namespace Go.Proofs.Ybulkdkrk.lawS5587AWhole
open Go.ChangeShapes Go.WideShapes Go.ChangeAt Go.RowKit

/-- The two struct arguments, each in its box. -/
structure Boxes (wx : World) (q : Nat) (sN sR sG oI oP oL oA : Int) (sO oH : Bool) : Prop where
  s : wx.heap[q]? = some (.cells #[.int .i64 sN, .int .u64 sR, .int .u64 sG, .bool sO] 25 (0, 0))
  o : wx.heap[q + 1]? = some (.cells #[.int .u64 oI, .int .u16 oP, .int .i64 oL, .int .u64 oA, .bool oH] 28 (0, 0))

section
variable {wx wy : World} {q : Nat} {sN sR sG oI oP oL oA : Int} {sO oH : Bool}
theorem Boxes.lt (h : Boxes wx q sN sR sG oI oP oL oA sO oH) : q + 1 < wx.heap.size := (Array.getElem?_eq_some_iff.1 h.o).1
theorem Boxes.chg (h : Boxes wx q sN sR sG oI oP oL oA sO oH) {X : List Nat} (c : Chg X wx wy) (hx : ∀ x ∈ X, q + 2 ≤ x) : Boxes wy q sN sR sG oI oP oL oA sO oH := by
  have hl := h.lt
  exact ⟨(c.block q (by omega) (fun e => by have := hx _ e; omega)).trans h.s, (c.block (q + 1) hl (fun e => by have := hx _ e; omega)).trans h.o⟩
theorem Boxes.cells (h : Boxes wx q sN sR sG oI oP oL oA sO oH) :
    wx.cell? ⟨q, 0, none⟩ = some (.int .i64 sN) ∧ wx.cell? ⟨q, 1, none⟩ = some (.int .u64 sR) ∧ wx.cell? ⟨q, 2, none⟩ = some (.int .u64 sG) ∧ wx.cell? ⟨q, 3, none⟩ = some (.bool sO) ∧
    wx.cell? ⟨q + 1, 0, none⟩ = some (.int .u64 oI) ∧ wx.cell? ⟨q + 1, 1, none⟩ = some (.int .u16 oP) ∧ wx.cell? ⟨q + 1, 2, none⟩ = some (.int .i64 oL) ∧ wx.cell? ⟨q + 1, 3, none⟩ = some (.int .u64 oA) ∧ wx.cell? ⟨q + 1, 4, none⟩ = some (.bool oH) := by
  have h1 := h.s
  have h2 := h.o
  simp [World.cell?, h1, h2]
end

/-- A LEDGER AS IT WAS BUILT from gaps, stamps and loads. -/
def Bl (wx : World) (P : Nat × Nat × Nat × Nat × Nat × Nat) (n : Nat) (G S L : Nat → Int) (rs gr x0 x1 x2 : Int) (x3 : Bool) : Prop :=
  Led wx P.1 P.2.1 P.2.2.1 P.2.2.2.1 P.2.2.2.2.1 P.2.2.2.2.2 n (fun i => idOf G (i + 1)) S L (fun i => G i % 2) (fun i => G i + 1) (odds G n) rs gr x0 x1 x2 x3
def blocks (P : Nat × Nat × Nat × Nat × Nat × Nat) : List Nat := [P.1, P.2.1, P.2.2.1, P.2.2.2.1, P.2.2.2.2.1, P.2.2.2.2.2]

/-- Both ledgers stand; no block of one is the other's. -/
structure Mid (w wx : World) (P R : Nat × Nat × Nat × Nat × Nat × Nat) (n : Nat) (G S L : Nat → Int) (rs gr x0 x1 x2 : Int) (x3 : Bool) (m : Nat) (H TS TL : Nat → Int) (tr : Int) (sN sR sG oI oP oL oA : Int) (sO oH : Bool) : Prop where
  bel : Below w.heap.size w wx
  box : Boxes wx w.heap.size sN sR sG oI oP oL oA sO oH
  l : Bl wx P n G S L rs gr x0 x1 x2 x3
  o : Bl wx R m H TS TL tr 0 0 0 0 false
  gel : ∀ g, g ∈ blocks P → w.heap.size + 2 ≤ g
  geo : ∀ g, g ∈ blocks R → w.heap.size + 2 ≤ g
  ap : ∀ g, g ∈ blocks R → g ∉ blocks P

section
variable {w wx wy : World} {P R : Nat × Nat × Nat × Nat × Nat × Nat} {n m : Nat} {G S L H TS TL : Nat → Int} {rs gr x0 x1 x2 tr sN sR sG oI oP oL oA y0 y1 y2 : Int} {x3 y3 sO oH : Bool}

theorem Bl.chg {rs gr x0 x1 x2 : Int} {x3 : Bool} (h : Bl wx P n G S L rs gr x0 x1 x2 x3) {X : List Nat} (c : Chg X wx wy) (hx : ∀ g, g ∈ blocks P → g ∉ X) : Bl wy P n G S L rs gr x0 x1 x2 x3 := Led.chg h c hx

theorem Mid.lts (h : Mid w wx P R n G S L rs gr x0 x1 x2 x3 m H TS TL tr sN sR sG oI oP oL oA sO oH) : (∀ g, g ∈ blocks P → g < wx.heap.size) ∧ (∀ g, g ∈ blocks R → g < wx.heap.size) := ⟨Led.lts h.l, Led.lts h.o⟩

/-- Nothing that stands turns: new blocks alone are written. -/
theorem Mid.later (h : Mid w wx P R n G S L rs gr x0 x1 x2 x3 m H TS TL tr sN sR sG oI oP oL oA sO oH) (hb : Below wx.heap.size wx wy) : Mid w wy P R n G S L rs gr x0 x1 x2 x3 m H TS TL tr sN sR sG oI oP oL oA sO oH :=
  ⟨h.bel.trans (hb.mono h.bel.size), h.box.chg (Chg.of_below (X := []) hb) (by simp), h.l.chg (Chg.of_below (X := []) hb) (by simp), h.o.chg (Chg.of_below (X := []) hb) (by simp), h.gel, h.geo, h.ap⟩

/-- 'l.since = ..': four cells of the first ledger. -/
theorem Mid.since (h : Mid w wx P R n G S L rs gr x0 x1 x2 x3 m H TS TL tr sN sR sG oI oP oL oA sO oH) (y0 y1 y2 : Int) (y3 : Bool) :
    Mid w ((((wx.setCell ⟨P.1, 8, none⟩ (.int .i64 y0)).setCell ⟨P.1, 9, none⟩ (.int .u64 y1)).setCell ⟨P.1, 10, none⟩ (.int .u64 y2)).setCell ⟨P.1, 11, none⟩ (.bool y3)) P R n G S L rs gr y0 y1 y2 y3 m H TS TL tr sN sR sG oI oP oL oA sO oH := by
  have c : Chg [P.1] wx ((((wx.setCell ⟨P.1, 8, none⟩ (.int .i64 y0)).setCell ⟨P.1, 9, none⟩ (.int .u64 y1)).setCell ⟨P.1, 10, none⟩ (.int .u64 y2)).setCell ⟨P.1, 11, none⟩ (.bool y3)) :=
    ((((Chg.refl _ _).setCell (by simp) _).setCell (by simp) _).setCell (by simp) _).setCell (by simp) _
  have hP : P.1 ∈ blocks P := by simp [blocks]
  refine ⟨h.bel.trans (c.below h.bel.size (by simp; have := h.gel _ hP; omega)), h.box.chg c (by simp; exact h.gel _ hP), Led.setSince h.l y0 y1 y2 y3, h.o.chg c ?_, h.gel, h.geo, h.ap⟩
  intro g hg e
  simp at e
  subst e
  exact h.ap _ hg hP
end

/-- The first ledger built, its two counts stored; then the second, its count stored. -/
theorem mid_of {w w0 w1 w3 : World} {P R : Nat × Nat × Nat × Nat × Nat × Nat} {n m : Nat} {G S L H TS TL : Nat → Int} {rs gr tr sN sR sG oI oP oL oA : Int} {sO oH : Bool}
    (h0 : w0 = (w.alloc (.cells #[.int .i64 sN, .int .u64 sR, .int .u64 sG, .bool sO] 25)).alloc (.cells #[.int .u64 oI, .int .u16 oP, .int .i64 oL, .int .u64 oA, .bool oH] 28))
    (h1 : Below w0.heap.size w0 w1) (g1 : ∀ g, g ∈ blocks P → w0.heap.size ≤ g) (l1 : Bl w1 P n G S L 0 0 0 0 0 false)
    (h3 : Below ((w1.setCell ⟨P.1, 6, none⟩ (.int .u64 rs)).setCell ⟨P.1, 7, none⟩ (.int .u64 gr)).heap.size ((w1.setCell ⟨P.1, 6, none⟩ (.int .u64 rs)).setCell ⟨P.1, 7, none⟩ (.int .u64 gr)) w3)
    (g3 : ∀ g, g ∈ blocks R → ((w1.setCell ⟨P.1, 6, none⟩ (.int .u64 rs)).setCell ⟨P.1, 7, none⟩ (.int .u64 gr)).heap.size ≤ g) (l3 : Bl w3 R m H TS TL 0 0 0 0 0 false) :
    Mid w (w3.setCell ⟨R.1, 6, none⟩ (.int .u64 tr)) P R n G S L rs gr 0 0 0 false m H TS TL tr sN sR sG oI oP oL oA sO oH := by
  have hs0 : w0.heap.size = w.heap.size + 2 := by rw [h0]; simp
  have hb0 : Below w.heap.size w w0 := by rw [h0]; exact ((Below.refl _ _).alloc (Nat.le_refl _) _).alloc (by simp) _
  have bx0 : Boxes w0 w.heap.size sN sR sG oI oP oL oA sO oH := by
    rw [h0]
    refine ⟨?_, ?_⟩
    · rw [Deep.blk_alloc_lt _ _ _ (by simp)]; exact Deep.blk_alloc_new _ _
    · have := Deep.blk_alloc_new (w.alloc (.cells #[.int .i64 sN, .int .u64 sR, .int .u64 sG, .bool sO] 25)) (.cells #[.int .u64 oI, .int .u16 oP, .int .i64 oL, .int .u64 oA, .bool oH] 28)
      simpa using this
  have c01 : Chg [] w0 w1 := Chg.of_below h1
  have hP : P.1 ∈ blocks P := by simp [blocks]
  have hR : R.1 ∈ blocks R := by simp [blocks]
  have pP := g1 _ hP
  have pR := g3 _ hR
  simp only [World.size_setCell] at g3 pR
  have c12 : Chg [P.1] w1 ((w1.setCell ⟨P.1, 6, none⟩ (.int .u64 rs)).setCell ⟨P.1, 7, none⟩ (.int .u64 gr)) := ((Chg.refl _ _).setCell (by simp) _).setCell (by simp) _
  have l2 : Bl ((w1.setCell ⟨P.1, 6, none⟩ (.int .u64 rs)).setCell ⟨P.1, 7, none⟩ (.int .u64 gr)) P n G S L rs gr 0 0 0 false := Led.setGrown (Led.setRaised l1 rs) gr
  have c23 := Chg.of_below (X := []) h3
  have c34 : Chg [R.1] w3 (w3.setCell ⟨R.1, 6, none⟩ (.int .u64 tr)) := (Chg.refl _ _).setCell (by simp) _
  have hlt := Led.lts l1
  have ap : ∀ g, g ∈ blocks R → g ∉ blocks P := fun g hg hg' => by have := g3 g hg; have := hlt g hg'; omega
  have hs1 := h1.size
  have hs3 := h3.size
  simp only [World.size_setCell] at hs3
  refine ⟨?_, ?_, ?_, ?_, fun g hg => by have := g1 g hg; omega, fun g hg => by have := g3 g hg; omega, ap⟩
  · refine (((hb0.trans (c01.below (by omega) (by simp))).trans (c12.below (by omega) (by simp; omega))).trans (c23.below (by simp; omega) (by simp))).trans (c34.below (by omega) (by simp; omega))
  · exact ((((bx0.chg c01 (by simp)).chg c12 (by simp; omega)).chg c23 (by simp)).chg c34 (by simp; omega))
  · refine (l2.chg c23 (by simp)).chg c34 ?_
    intro g hg e
    simp at e
    subst e
    exact ap _ hR hg
  · exact Led.setRaised l3 tr
end Go.Proofs.Ybulkdkrk.lawS5587AWhole
