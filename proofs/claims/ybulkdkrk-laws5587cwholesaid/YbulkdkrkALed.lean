import Derived.Test.YbulkdkrkABase
import Derived.Deep.DeepCutAuto
namespace Go.Proofs.Ybulkdkrk.lawS5587AWhole
open Go.ChangeShapes Go.WideShapes Go.ChangeAt Go.RowKit

/-- The cells of a ledger's own block. -/
def ledCells (bi bs bl bt ba n : Nat) (sd rs gr nd r2 g2 : Int) (ok : Bool) : Array Value :=
  #[.slice (some ⟨bi, 0, none⟩) n n, .slice (some ⟨bs, 0, none⟩) n n, .slice (some ⟨bl, 0, none⟩) n n, .slice (some ⟨bt, 0, none⟩) n n, .slice (some ⟨ba, 0, none⟩) n n,
    .int .i64 sd, .int .u64 rs, .int .u64 gr, .int .i64 nd, .int .u64 r2, .int .u64 g2, .bool ok, .int .i64 0, .int .i64 0]

/-- WHAT IS KNOWN OF A LEDGER: its block b, and the five rows that it leads to. -/
structure Led (w : World) (b bi bs bl bt ba n : Nat) (I S L T A : Nat → Int) (sd rs gr nd r2 g2 : Int) (ok : Bool) : Prop where
  blk : w.heap[b]? = some (.cells (ledCells bi bs bl bt ba n sd rs gr nd r2 g2 ok) 37 (0, 0))
  ids : w.rowIs bi 23 n (fun i => .int .u64 (I i))
  stamp : w.rowIs bs 23 n (fun i => .int .u64 (S i))
  load : w.rowIs bl 3 n (fun i => .int .i64 (L i))
  sent : w.rowIs bt 3 n (fun i => .int .i64 (T i))
  areas : w.rowIs ba 21 n (fun i => .int .i32 (A i))
  apart : bi ≠ bs ∧ bl ≠ bt

/-- A number put in the place of another. -/
def upd (f : Nat → Int) (k : Nat) (v : Int) (i : Nat) : Int := if i = k then v else f i

section
variable {w w' : World} {b bi bs bl bt ba n : Nat} {I S L T A : Nat → Int} {sd rs gr nd r2 g2 : Int} {ok : Bool}

theorem Led.of (h : Led w b bi bs bl bt ba n I S L T A sd rs gr nd r2 g2 ok) (e : ∀ g, g ∈ [b, bi, bs, bl, bt, ba] → w'.heap[g]? = w.heap[g]?) : Led w' b bi bs bl bt ba n I S L T A sd rs gr nd r2 g2 ok :=
  ⟨(e b (by simp)).trans h.blk, h.ids.of_block (e bi (by simp)), h.stamp.of_block (e bs (by simp)), h.load.of_block (e bl (by simp)), h.sent.of_block (e bt (by simp)), h.areas.of_block (e ba (by simp)), h.apart⟩

theorem Led.lts (h : Led w b bi bs bl bt ba n I S L T A sd rs gr nd r2 g2 ok) : ∀ g, g ∈ [b, bi, bs, bl, bt, ba] → g < w.heap.size := by
  intro g hg
  simp only [List.mem_cons, List.not_mem_nil, or_false] at hg
  rcases hg with rfl | rfl | rfl | rfl | rfl | rfl
  · exact (Array.getElem?_eq_some_iff.1 h.blk).1
  · exact h.ids.lt
  · exact h.stamp.lt
  · exact h.load.lt
  · exact h.sent.lt
  · exact h.areas.lt

theorem row_ne {b c t u m k : Nat} {f g : Nat → Value} (h : w.rowIs b t m f) (k' : w.rowIs c u k g) (hne : t ≠ u) : b ≠ c := by
  rintro rfl
  obtain ⟨x, hx, _⟩ := h
  obtain ⟨y, hy, _⟩ := k'
  rw [hx] at hy
  simp at hy
  exact hne hy.2

theorem blk_ne {b c u k : Nat} {x : Array Value} {g : Nat → Value} (h : w.heap[b]? = some (.cells x 37 (0, 0))) (k' : w.rowIs c u k g) (hne : 37 ≠ u) : b ≠ c := by
  rintro rfl
  obtain ⟨y, hy, _⟩ := k'
  rw [h] at hy
  simp at hy
  exact hne hy.2

theorem Led.nodup (h : Led w b bi bs bl bt ba n I S L T A sd rs gr nd r2 g2 ok) : [b, bi, bs, bl, bt, ba].Nodup := by
  obtain ⟨h1, h2, h3, h4, h5, h6, h7, h8⟩ := h
  have a1 := blk_ne h1 h2 (by decide); have a2 := blk_ne h1 h3 (by decide); have a3 := blk_ne h1 h4 (by decide); have a4 := blk_ne h1 h5 (by decide); have a5 := blk_ne h1 h6 (by decide)
  have b2 := row_ne h2 h4 (by decide); have b3 := row_ne h2 h5 (by decide); have b4 := row_ne h2 h6 (by decide)
  have c1 := row_ne h3 h4 (by decide); have c2 := row_ne h3 h5 (by decide); have c3 := row_ne h3 h6 (by decide)
  have d1 := row_ne h4 h6 (by decide); have d2 := row_ne h5 h6 (by decide)
  simp [a1, a2, a3, a4, a5, b2, b3, b4, c1, c2, c3, d1, d2, h7, h8]

theorem Led.drew (h : Led w b bi bs bl bt ba n I S L T A sd rs gr nd r2 g2 ok) : Led w.drew b bi bs bl bt ba n I S L T A sd rs gr nd r2 g2 ok := h.of (fun _ _ => rfl)

theorem Led.chg (h : Led w b bi bs bl bt ba n I S L T A sd rs gr nd r2 g2 ok) {X : List Nat} (c : Chg X w w') (hx : ∀ g, g ∈ [b, bi, bs, bl, bt, ba] → g ∉ X) : Led w' b bi bs bl bt ba n I S L T A sd rs gr nd r2 g2 ok :=
  h.of (fun g hg => c.block g (h.lts g hg) (hx g hg))

theorem Led.setS (h : Led w b bi bs bl bt ba n I S L T A sd rs gr nd r2 g2 ok) (k : Nat) (v : Int) : Led (w.setCell ⟨bs, k, none⟩ (.int .u64 v)) b bi bs bl bt ba n I (upd S k v) L T A sd rs gr nd r2 g2 ok := by
  have hn := h.nodup
  simp at hn
  have o : ∀ g, g ≠ bs → (w.setCell ⟨bs, k, none⟩ (.int .u64 v)).heap[g]? = w.heap[g]? := fun g hg => Deep.blk_setCell_other _ _ _ _ hg
  exact ⟨(o _ (by simp [hn])).trans h.blk, h.ids.of_block (o _ (by simp [hn])), (h.stamp.set k _).congr (fun i _ => by simp only [upd]; split <;> rfl), h.load.of_block (o _ (fun e => hn.2.2.1.1 e.symm)), h.sent.of_block (o _ (fun e => hn.2.2.1.2.1 e.symm)), h.areas.of_block (o _ (fun e => hn.2.2.1.2.2 e.symm)), h.apart⟩

theorem Led.setL (h : Led w b bi bs bl bt ba n I S L T A sd rs gr nd r2 g2 ok) (k : Nat) (v : Int) : Led (w.setCell ⟨bl, k, none⟩ (.int .i64 v)) b bi bs bl bt ba n I S (upd L k v) T A sd rs gr nd r2 g2 ok := by
  have hn := h.nodup
  simp at hn
  have o : ∀ g, g ≠ bl → (w.setCell ⟨bl, k, none⟩ (.int .i64 v)).heap[g]? = w.heap[g]? := fun g hg => Deep.blk_setCell_other _ _ _ _ hg
  exact ⟨(o _ (by simp [hn])).trans h.blk, h.ids.of_block (o _ (by simp [hn])), h.stamp.of_block (o _ (by simp [hn])), (h.load.set k _).congr (fun i _ => by simp only [upd]; split <;> rfl), h.sent.of_block (o _ (fun e => hn.2.2.2.1.1 e.symm)), h.areas.of_block (o _ (fun e => hn.2.2.2.1.2 e.symm)), h.apart⟩

theorem Led.setT (h : Led w b bi bs bl bt ba n I S L T A sd rs gr nd r2 g2 ok) (k : Nat) (v : Int) : Led (w.setCell ⟨bt, k, none⟩ (.int .i64 v)) b bi bs bl bt ba n I S L (upd T k v) A sd rs gr nd r2 g2 ok := by
  have hn := h.nodup
  simp at hn
  have o : ∀ g, g ≠ bt → (w.setCell ⟨bt, k, none⟩ (.int .i64 v)).heap[g]? = w.heap[g]? := fun g hg => Deep.blk_setCell_other _ _ _ _ hg
  exact ⟨(o _ (by simp [hn])).trans h.blk, h.ids.of_block (o _ (by simp [hn])), h.stamp.of_block (o _ (by simp [hn])), h.load.of_block (o _ (by simp [hn])), (h.sent.set k _).congr (fun i _ => by simp only [upd]; split <;> rfl), h.areas.of_block (o _ (fun e => hn.2.2.2.2 e.symm)), h.apart⟩

theorem Led.setA (h : Led w b bi bs bl bt ba n I S L T A sd rs gr nd r2 g2 ok) (k : Nat) (v : Int) : Led (w.setCell ⟨ba, k, none⟩ (.int .i32 v)) b bi bs bl bt ba n I S L T (upd A k v) sd rs gr nd r2 g2 ok := by
  have hn := h.nodup
  simp at hn
  have o : ∀ g, g ≠ ba → (w.setCell ⟨ba, k, none⟩ (.int .i32 v)).heap[g]? = w.heap[g]? := fun g hg => Deep.blk_setCell_other _ _ _ _ hg
  exact ⟨(o _ (by simp [hn])).trans h.blk, h.ids.of_block (o _ (by simp [hn])), h.stamp.of_block (o _ (by simp [hn])), h.load.of_block (o _ (by simp [hn])), h.sent.of_block (o _ (by simp [hn])), (h.areas.set k _).congr (fun i _ => by simp only [upd]; split <;> rfl), h.apart⟩

/-- The ledger's own block, all of its cells turned to those of other numbers. -/
theorem Led.setB (h : Led w b bi bs bl bt ba n I S L T A sd rs gr nd r2 g2 ok) {sd' rs' gr' nd' r2' g2' : Int} {ok' : Bool} (hb : w'.heap[b]? = some (.cells (ledCells bi bs bl bt ba n sd' rs' gr' nd' r2' g2' ok') 37 (0, 0)))
    (o : ∀ g, g ≠ b → w'.heap[g]? = w.heap[g]?) : Led w' b bi bs bl bt ba n I S L T A sd' rs' gr' nd' r2' g2' ok' := by
  have hn := h.nodup
  simp at hn
  exact ⟨hb, h.ids.of_block (o _ (fun e => hn.1.1 e.symm)), h.stamp.of_block (o _ (fun e => hn.1.2.1 e.symm)), h.load.of_block (o _ (fun e => hn.1.2.2.1 e.symm)), h.sent.of_block (o _ (fun e => hn.1.2.2.2.1 e.symm)), h.areas.of_block (o _ (fun e => hn.1.2.2.2.2 e.symm)), h.apart⟩

/-- The heap's block behind a store. -/
theorem blk_set {x : Array Value} {t : TypeId} (h : w.heap[b]? = some (.cells x t (0, 0))) (k : Nat) (v : Value) : (w.setCell ⟨b, k, none⟩ v).heap[b]? = some (.cells (x.setIfInBounds k v) t (0, 0)) := by
  simp [World.setCell, Array.getElem?_modify, h]

theorem Led.setSending (h : Led w b bi bs bl bt ba n I S L T A sd rs gr nd r2 g2 ok) (v : Int) : Led (w.setCell ⟨b, 5, none⟩ (.int .i64 v)) b bi bs bl bt ba n I S L T A v rs gr nd r2 g2 ok :=
  h.setB ((blk_set h.blk 5 _).trans (by simp [ledCells])) (fun _ hg => Deep.blk_setCell_other _ _ _ _ hg)
theorem Led.setRaised (h : Led w b bi bs bl bt ba n I S L T A sd rs gr nd r2 g2 ok) (v : Int) : Led (w.setCell ⟨b, 6, none⟩ (.int .u64 v)) b bi bs bl bt ba n I S L T A sd v gr nd r2 g2 ok :=
  h.setB ((blk_set h.blk 6 _).trans (by simp [ledCells])) (fun _ hg => Deep.blk_setCell_other _ _ _ _ hg)
theorem Led.setGrown (h : Led w b bi bs bl bt ba n I S L T A sd rs gr nd r2 g2 ok) (v : Int) : Led (w.setCell ⟨b, 7, none⟩ (.int .u64 v)) b bi bs bl bt ba n I S L T A sd rs v nd r2 g2 ok :=
  h.setB ((blk_set h.blk 7 _).trans (by simp [ledCells])) (fun _ hg => Deep.blk_setCell_other _ _ _ _ hg)
theorem Led.setSince (h : Led w b bi bs bl bt ba n I S L T A sd rs gr nd r2 g2 ok) (v0 v1 v2 : Int) (v3 : Bool) :
    Led ((((w.setCell ⟨b, 8, none⟩ (.int .i64 v0)).setCell ⟨b, 9, none⟩ (.int .u64 v1)).setCell ⟨b, 10, none⟩ (.int .u64 v2)).setCell ⟨b, 11, none⟩ (.bool v3)) b bi bs bl bt ba n I S L T A sd rs gr v0 v1 v2 v3 :=
  h.setB ((blk_set (blk_set (blk_set (blk_set h.blk 8 _) 9 _) 10 _) 11 _).trans (by simp [ledCells]))
    (fun _ hg => ((Deep.blk_setCell_other _ _ _ _ hg).trans (Deep.blk_setCell_other _ _ _ _ hg)).trans ((Deep.blk_setCell_other _ _ _ _ hg).trans (Deep.blk_setCell_other _ _ _ _ hg)))

/-- The ledger's own cells. -/
theorem Led.cells (h : Led w b bi bs bl bt ba n I S L T A sd rs gr nd r2 g2 ok) :
    w.cell? ⟨b, 0, none⟩ = some (.slice (some ⟨bi, 0, none⟩) n n) ∧ w.cell? ⟨b, 1, none⟩ = some (.slice (some ⟨bs, 0, none⟩) n n) ∧ w.cell? ⟨b, 2, none⟩ = some (.slice (some ⟨bl, 0, none⟩) n n) ∧
    w.cell? ⟨b, 3, none⟩ = some (.slice (some ⟨bt, 0, none⟩) n n) ∧ w.cell? ⟨b, 4, none⟩ = some (.slice (some ⟨ba, 0, none⟩) n n) ∧ w.cell? ⟨b, 5, none⟩ = some (.int .i64 sd) ∧ w.cell? ⟨b, 6, none⟩ = some (.int .u64 rs) ∧
    w.cell? ⟨b, 7, none⟩ = some (.int .u64 gr) ∧ w.cell? ⟨b, 8, none⟩ = some (.int .i64 nd) ∧ w.cell? ⟨b, 9, none⟩ = some (.int .u64 r2) ∧ w.cell? ⟨b, 10, none⟩ = some (.int .u64 g2) ∧ w.cell? ⟨b, 11, none⟩ = some (.bool ok) ∧
    w.cell? ⟨b, 12, none⟩ = some (.int .i64 0) ∧ w.cell? ⟨b, 13, none⟩ = some (.int .i64 0) := by
  have hb := h.blk
  simp [World.cell?, hb, ledCells]

theorem Led.free (h : Led w b bi bs bl bt ba n I S L T A sd rs gr nd r2 g2 ok) (k : Nat) : w.frozen? ⟨b, k, none⟩ = false := by
  have hb := h.blk
  simp [World.frozen?, hb]
end
end Go.Proofs.Ybulkdkrk.lawS5587AWhole
