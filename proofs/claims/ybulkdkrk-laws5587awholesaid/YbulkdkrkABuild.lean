import Derived.Test.YbulkdkrkARegion
namespace Go.Proofs.Ybulkdkrk.lawS5587AWhole
open Go.ChangeShapes Go.WideShapes Go.ChangeAt Go.RowKit

theorem mixed : Yba.prog.follows .mixedOrders = true := by kernel_rfl

/-- A value put into a slot. -/
def setU (u : Nat → Value) (s : Nat) (v : Value) (t : Nat) : Value := if t = s then v else u t

set_option maxRecDepth 100000 in
/-- The frame of zzs5587abuild inside its drawing region. -/
def fr5 (ao : Option Addr) (n c : Nat) (u : Nat → Value) : Act := ⟨#[.slice ao n c, undef, .pointer none, .int .i64 n, u 4, undef, .slice ao n c, .int .i64 n, u 8, u 9, u 10, u 11, u 12, u 13, u 14, u 15, u 16, u 17, u 18, u 19, undef, undef, undef, undef, undef, undef, undef, undef, undef, undef, undef, undef, undef, undef, undef, undef, undef, undef, undef, undef, undef, undef, undef, undef, undef, undef, undef, undef, undef, undef, undef, undef, undef, undef, undef, undef, undef, undef, undef, undef, undef, undef, undef, undef, undef, undef, undef, undef, undef, undef, undef, undef, undef, undef, undef, undef, undef, undef, undef, undef, undef, undef, undef, undef, undef, undef, undef, undef, undef], []⟩

/-- Slot s holds a slice over a row of the call's own. -/
def OwnRow (w0 w : World) (n : Nat) (t : TypeId) (f : Nat → Value) (v : Value) : Prop := ∃ g, v = .slice (some ⟨g, 0, none⟩) n n ∧ w0.heap.size ≤ g ∧ w.rowIs g t n f

theorem OwnRow.later {w0 w w' : World} {n : Nat} {t : TypeId} {f : Nat → Value} {v : Value} (h : OwnRow w0 w n t f v) (hb : Below w.heap.size w w') : OwnRow w0 w' n t f v := by
  obtain ⟨g, h1, h2, h3⟩ := h
  exact ⟨g, h1, h2, h3.of_block (hb.block g h3.lt)⟩

/-- What holds at every moment of the region: 'd i': operation i has been carried out. -/
structure R2 (ao : Option Addr) (n c : Nat) (G : Nat → Int) (w0 : World) (d : Nat → Bool) (u : Nat → Value) (w : World) : Prop where
  bel : Below w0.heap.size w0 w
  c0 : d 0 = true → u 8 = .slice ao n c
  c1 : d 1 = true → OwnRow w0 w n 23 (fun i => .int .u64 (idOf G (i + 1))) (u 9)
  c2 : d 2 = true → u 10 = .int .i64 n
  c3 : d 3 = true → OwnRow w0 w n 23 (fun _ => .int .u64 0) (u 11)
  c4 : d 4 = true → u 12 = .int .i64 n
  c5 : d 5 = true → OwnRow w0 w n 3 (fun _ => .int .i64 0) (u 13)
  c6 : d 6 = true → u 14 = .int .i64 n
  c7 : d 7 = true → OwnRow w0 w n 3 (fun _ => .int .i64 0) (u 15)
  c8 : d 8 = true → u 16 = .int .i64 n
  c9 : d 9 = true → OwnRow w0 w n 21 (fun _ => .int .i32 0) (u 17)
  n1 : d 1 = true → d 3 = true → u 9 ≠ u 11
  n2 : d 5 = true → d 7 = true → u 13 ≠ u 15
  c10 : d 10 = true → u 18 = .agg #[u 9, u 11, u 13, u 15, u 17, .int .i64 0, .int .u64 0, .int .u64 0, .int .i64 0, .int .u64 0, .int .u64 0, .bool false, .int .i64 0, .int .i64 0]
  c11 : d 11 = true → ∃ p, u 19 = .pointer (some ⟨p, 0, none⟩) ∧ w0.heap.size ≤ p ∧ w.heap[p]? = some (.cells #[u 9, u 11, u 13, u 15, u 17, .int .i64 0, .int .u64 0, .int .u64 0, .int .i64 0, .int .u64 0, .int .u64 0, .bool false, .int .i64 0, .int .i64 0] 37 (0, 0))
  c12 : d 12 = true → u 4 = u 19
  /- the operations behind wait for those ahead -/
  o10 : d 10 = true → d 1 = true ∧ d 3 = true ∧ d 5 = true ∧ d 7 = true ∧ d 9 = true
  o11 : d 11 = true → d 10 = true
  o12 : d 12 = true → d 11 = true

theorem R2.s0 {ao : Option Addr} {n c : Nat} {G : Nat → Int} {w0 w : World} {d : Nat → Bool} {u : Nat → Value} (h : R2 ao n c G w0 d u w) : R2 ao n c G w0 (fun j => decide (j = 0) || d j) (setU u 8 (.slice ao n c)) w where
  bel := h.bel
  c0 := fun _ => by simp [setU]
  c1 := fun h1 => by simpa [setU] using h.c1 (by simpa using h1)
  c2 := fun h1 => by simpa [setU] using h.c2 (by simpa using h1)
  c3 := fun h1 => by simpa [setU] using h.c3 (by simpa using h1)
  c4 := fun h1 => by simpa [setU] using h.c4 (by simpa using h1)
  c5 := fun h1 => by simpa [setU] using h.c5 (by simpa using h1)
  c6 := fun h1 => by simpa [setU] using h.c6 (by simpa using h1)
  c7 := fun h1 => by simpa [setU] using h.c7 (by simpa using h1)
  c8 := fun h1 => by simpa [setU] using h.c8 (by simpa using h1)
  c9 := fun h1 => by simpa [setU] using h.c9 (by simpa using h1)
  n1 := fun h1 h2 => by simpa [setU] using h.n1 (by simpa using h1) (by simpa using h2)
  n2 := fun h1 h2 => by simpa [setU] using h.n2 (by simpa using h1) (by simpa using h2)
  c10 := fun h1 => by simpa [setU] using h.c10 (by simpa using h1)
  c11 := fun h1 => by simpa [setU] using h.c11 (by simpa using h1)
  c12 := fun h1 => by simpa [setU] using h.c12 (by simpa using h1)
  o10 := fun h1 => by simpa [setU] using h.o10 (by simpa using h1)
  o11 := fun h1 => by simpa [setU] using h.o11 (by simpa using h1)
  o12 := fun h1 => by simpa [setU] using h.o12 (by simpa using h1)

theorem R2.s1 {ao : Option Addr} {n c : Nat} {G : Nat → Int} {w0 w w' : World} {d : Nat → Bool} {u : Nat → Value} (h : R2 ao n c G w0 d u w) (hd : d 1 = false) (hb : Below w.heap.size w w') (hr : w'.rowIs w.heap.size 23 n (fun i => .int .u64 (idOf G (i + 1)))) : R2 ao n c G w0 (fun j => decide (j = 1) || d j) (setU u 9 (.slice (some ⟨w.heap.size, 0, none⟩) n n)) w' where
  bel := h.bel.trans (hb.mono h.bel.size)
  c0 := fun h1 => by simpa [setU] using h.c0 (by simpa using h1)
  c1 := fun _ => ⟨_, by simp [setU], h.bel.size, hr⟩
  c2 := fun h1 => by simpa [setU] using h.c2 (by simpa using h1)
  c3 := fun h1 => by simpa [setU] using (h.c3 (by simpa using h1)).later hb
  c4 := fun h1 => by simpa [setU] using h.c4 (by simpa using h1)
  c5 := fun h1 => by simpa [setU] using (h.c5 (by simpa using h1)).later hb
  c6 := fun h1 => by simpa [setU] using h.c6 (by simpa using h1)
  c7 := fun h1 => by simpa [setU] using (h.c7 (by simpa using h1)).later hb
  c8 := fun h1 => by simpa [setU] using h.c8 (by simpa using h1)
  c9 := fun h1 => by simpa [setU] using (h.c9 (by simpa using h1)).later hb
  n1 := fun h1 h2 => by
    obtain ⟨g, e, _, hg⟩ := h.c3 (by simpa using h2)
    have hlt := hg.lt
    simp [setU, e] <;> omega
  n2 := fun h1 h2 => by simpa [setU] using h.n2 (by simpa using h1) (by simpa using h2)
  c10 := fun h1 => by have := h.o10 (by simpa using h1); simp [hd] at this
  c11 := fun h1 => by have := h.o10 (h.o11 (by simpa using h1)); simp [hd] at this
  c12 := fun h1 => by simpa [setU] using h.c12 (by simpa using h1)
  o10 := fun h1 => by have := h.o10 (by simpa using h1); simp [hd] at this
  o11 := fun h1 => by simpa [setU] using h.o11 (by simpa using h1)
  o12 := fun h1 => by simpa [setU] using h.o12 (by simpa using h1)

theorem R2.s2 {ao : Option Addr} {n c : Nat} {G : Nat → Int} {w0 w : World} {d : Nat → Bool} {u : Nat → Value} (h : R2 ao n c G w0 d u w) : R2 ao n c G w0 (fun j => decide (j = 2) || d j) (setU u 10 (.int .i64 n)) w where
  bel := h.bel
  c0 := fun h1 => by simpa [setU] using h.c0 (by simpa using h1)
  c1 := fun h1 => by simpa [setU] using h.c1 (by simpa using h1)
  c2 := fun _ => by simp [setU]
  c3 := fun h1 => by simpa [setU] using h.c3 (by simpa using h1)
  c4 := fun h1 => by simpa [setU] using h.c4 (by simpa using h1)
  c5 := fun h1 => by simpa [setU] using h.c5 (by simpa using h1)
  c6 := fun h1 => by simpa [setU] using h.c6 (by simpa using h1)
  c7 := fun h1 => by simpa [setU] using h.c7 (by simpa using h1)
  c8 := fun h1 => by simpa [setU] using h.c8 (by simpa using h1)
  c9 := fun h1 => by simpa [setU] using h.c9 (by simpa using h1)
  n1 := fun h1 h2 => by simpa [setU] using h.n1 (by simpa using h1) (by simpa using h2)
  n2 := fun h1 h2 => by simpa [setU] using h.n2 (by simpa using h1) (by simpa using h2)
  c10 := fun h1 => by simpa [setU] using h.c10 (by simpa using h1)
  c11 := fun h1 => by simpa [setU] using h.c11 (by simpa using h1)
  c12 := fun h1 => by simpa [setU] using h.c12 (by simpa using h1)
  o10 := fun h1 => by simpa [setU] using h.o10 (by simpa using h1)
  o11 := fun h1 => by simpa [setU] using h.o11 (by simpa using h1)
  o12 := fun h1 => by simpa [setU] using h.o12 (by simpa using h1)

theorem R2.s3 {ao : Option Addr} {n c : Nat} {G : Nat → Int} {w0 w w' : World} {d : Nat → Bool} {u : Nat → Value} (h : R2 ao n c G w0 d u w) (hd : d 3 = false) (hb : Below w.heap.size w w') (hr : w'.rowIs w.heap.size 23 n (fun _ => .int .u64 0)) : R2 ao n c G w0 (fun j => decide (j = 3) || d j) (setU u 11 (.slice (some ⟨w.heap.size, 0, none⟩) n n)) w' where
  bel := h.bel.trans (hb.mono h.bel.size)
  c0 := fun h1 => by simpa [setU] using h.c0 (by simpa using h1)
  c1 := fun h1 => by simpa [setU] using (h.c1 (by simpa using h1)).later hb
  c2 := fun h1 => by simpa [setU] using h.c2 (by simpa using h1)
  c3 := fun _ => ⟨_, by simp [setU], h.bel.size, hr⟩
  c4 := fun h1 => by simpa [setU] using h.c4 (by simpa using h1)
  c5 := fun h1 => by simpa [setU] using (h.c5 (by simpa using h1)).later hb
  c6 := fun h1 => by simpa [setU] using h.c6 (by simpa using h1)
  c7 := fun h1 => by simpa [setU] using (h.c7 (by simpa using h1)).later hb
  c8 := fun h1 => by simpa [setU] using h.c8 (by simpa using h1)
  c9 := fun h1 => by simpa [setU] using (h.c9 (by simpa using h1)).later hb
  n1 := fun h1 h2 => by
    obtain ⟨g, e, _, hg⟩ := h.c1 (by simpa using h1)
    have hlt := hg.lt
    simp [setU, e] <;> omega
  n2 := fun h1 h2 => by simpa [setU] using h.n2 (by simpa using h1) (by simpa using h2)
  c10 := fun h1 => by have := h.o10 (by simpa using h1); simp [hd] at this
  c11 := fun h1 => by have := h.o10 (h.o11 (by simpa using h1)); simp [hd] at this
  c12 := fun h1 => by simpa [setU] using h.c12 (by simpa using h1)
  o10 := fun h1 => by have := h.o10 (by simpa using h1); simp [hd] at this
  o11 := fun h1 => by simpa [setU] using h.o11 (by simpa using h1)
  o12 := fun h1 => by simpa [setU] using h.o12 (by simpa using h1)

theorem R2.s4 {ao : Option Addr} {n c : Nat} {G : Nat → Int} {w0 w : World} {d : Nat → Bool} {u : Nat → Value} (h : R2 ao n c G w0 d u w) : R2 ao n c G w0 (fun j => decide (j = 4) || d j) (setU u 12 (.int .i64 n)) w where
  bel := h.bel
  c0 := fun h1 => by simpa [setU] using h.c0 (by simpa using h1)
  c1 := fun h1 => by simpa [setU] using h.c1 (by simpa using h1)
  c2 := fun h1 => by simpa [setU] using h.c2 (by simpa using h1)
  c3 := fun h1 => by simpa [setU] using h.c3 (by simpa using h1)
  c4 := fun _ => by simp [setU]
  c5 := fun h1 => by simpa [setU] using h.c5 (by simpa using h1)
  c6 := fun h1 => by simpa [setU] using h.c6 (by simpa using h1)
  c7 := fun h1 => by simpa [setU] using h.c7 (by simpa using h1)
  c8 := fun h1 => by simpa [setU] using h.c8 (by simpa using h1)
  c9 := fun h1 => by simpa [setU] using h.c9 (by simpa using h1)
  n1 := fun h1 h2 => by simpa [setU] using h.n1 (by simpa using h1) (by simpa using h2)
  n2 := fun h1 h2 => by simpa [setU] using h.n2 (by simpa using h1) (by simpa using h2)
  c10 := fun h1 => by simpa [setU] using h.c10 (by simpa using h1)
  c11 := fun h1 => by simpa [setU] using h.c11 (by simpa using h1)
  c12 := fun h1 => by simpa [setU] using h.c12 (by simpa using h1)
  o10 := fun h1 => by simpa [setU] using h.o10 (by simpa using h1)
  o11 := fun h1 => by simpa [setU] using h.o11 (by simpa using h1)
  o12 := fun h1 => by simpa [setU] using h.o12 (by simpa using h1)

theorem R2.s5 {ao : Option Addr} {n c : Nat} {G : Nat → Int} {w0 w w' : World} {d : Nat → Bool} {u : Nat → Value} (h : R2 ao n c G w0 d u w) (hd : d 5 = false) (hb : Below w.heap.size w w') (hr : w'.rowIs w.heap.size 3 n (fun _ => .int .i64 0)) : R2 ao n c G w0 (fun j => decide (j = 5) || d j) (setU u 13 (.slice (some ⟨w.heap.size, 0, none⟩) n n)) w' where
  bel := h.bel.trans (hb.mono h.bel.size)
  c0 := fun h1 => by simpa [setU] using h.c0 (by simpa using h1)
  c1 := fun h1 => by simpa [setU] using (h.c1 (by simpa using h1)).later hb
  c2 := fun h1 => by simpa [setU] using h.c2 (by simpa using h1)
  c3 := fun h1 => by simpa [setU] using (h.c3 (by simpa using h1)).later hb
  c4 := fun h1 => by simpa [setU] using h.c4 (by simpa using h1)
  c5 := fun _ => ⟨_, by simp [setU], h.bel.size, hr⟩
  c6 := fun h1 => by simpa [setU] using h.c6 (by simpa using h1)
  c7 := fun h1 => by simpa [setU] using (h.c7 (by simpa using h1)).later hb
  c8 := fun h1 => by simpa [setU] using h.c8 (by simpa using h1)
  c9 := fun h1 => by simpa [setU] using (h.c9 (by simpa using h1)).later hb
  n1 := fun h1 h2 => by simpa [setU] using h.n1 (by simpa using h1) (by simpa using h2)
  n2 := fun h1 h2 => by
    obtain ⟨g, e, _, hg⟩ := h.c7 (by simpa using h2)
    have hlt := hg.lt
    simp [setU, e] <;> omega
  c10 := fun h1 => by have := h.o10 (by simpa using h1); simp [hd] at this
  c11 := fun h1 => by have := h.o10 (h.o11 (by simpa using h1)); simp [hd] at this
  c12 := fun h1 => by simpa [setU] using h.c12 (by simpa using h1)
  o10 := fun h1 => by have := h.o10 (by simpa using h1); simp [hd] at this
  o11 := fun h1 => by simpa [setU] using h.o11 (by simpa using h1)
  o12 := fun h1 => by simpa [setU] using h.o12 (by simpa using h1)

theorem R2.s6 {ao : Option Addr} {n c : Nat} {G : Nat → Int} {w0 w : World} {d : Nat → Bool} {u : Nat → Value} (h : R2 ao n c G w0 d u w) : R2 ao n c G w0 (fun j => decide (j = 6) || d j) (setU u 14 (.int .i64 n)) w where
  bel := h.bel
  c0 := fun h1 => by simpa [setU] using h.c0 (by simpa using h1)
  c1 := fun h1 => by simpa [setU] using h.c1 (by simpa using h1)
  c2 := fun h1 => by simpa [setU] using h.c2 (by simpa using h1)
  c3 := fun h1 => by simpa [setU] using h.c3 (by simpa using h1)
  c4 := fun h1 => by simpa [setU] using h.c4 (by simpa using h1)
  c5 := fun h1 => by simpa [setU] using h.c5 (by simpa using h1)
  c6 := fun _ => by simp [setU]
  c7 := fun h1 => by simpa [setU] using h.c7 (by simpa using h1)
  c8 := fun h1 => by simpa [setU] using h.c8 (by simpa using h1)
  c9 := fun h1 => by simpa [setU] using h.c9 (by simpa using h1)
  n1 := fun h1 h2 => by simpa [setU] using h.n1 (by simpa using h1) (by simpa using h2)
  n2 := fun h1 h2 => by simpa [setU] using h.n2 (by simpa using h1) (by simpa using h2)
  c10 := fun h1 => by simpa [setU] using h.c10 (by simpa using h1)
  c11 := fun h1 => by simpa [setU] using h.c11 (by simpa using h1)
  c12 := fun h1 => by simpa [setU] using h.c12 (by simpa using h1)
  o10 := fun h1 => by simpa [setU] using h.o10 (by simpa using h1)
  o11 := fun h1 => by simpa [setU] using h.o11 (by simpa using h1)
  o12 := fun h1 => by simpa [setU] using h.o12 (by simpa using h1)

theorem R2.s7 {ao : Option Addr} {n c : Nat} {G : Nat → Int} {w0 w w' : World} {d : Nat → Bool} {u : Nat → Value} (h : R2 ao n c G w0 d u w) (hd : d 7 = false) (hb : Below w.heap.size w w') (hr : w'.rowIs w.heap.size 3 n (fun _ => .int .i64 0)) : R2 ao n c G w0 (fun j => decide (j = 7) || d j) (setU u 15 (.slice (some ⟨w.heap.size, 0, none⟩) n n)) w' where
  bel := h.bel.trans (hb.mono h.bel.size)
  c0 := fun h1 => by simpa [setU] using h.c0 (by simpa using h1)
  c1 := fun h1 => by simpa [setU] using (h.c1 (by simpa using h1)).later hb
  c2 := fun h1 => by simpa [setU] using h.c2 (by simpa using h1)
  c3 := fun h1 => by simpa [setU] using (h.c3 (by simpa using h1)).later hb
  c4 := fun h1 => by simpa [setU] using h.c4 (by simpa using h1)
  c5 := fun h1 => by simpa [setU] using (h.c5 (by simpa using h1)).later hb
  c6 := fun h1 => by simpa [setU] using h.c6 (by simpa using h1)
  c7 := fun _ => ⟨_, by simp [setU], h.bel.size, hr⟩
  c8 := fun h1 => by simpa [setU] using h.c8 (by simpa using h1)
  c9 := fun h1 => by simpa [setU] using (h.c9 (by simpa using h1)).later hb
  n1 := fun h1 h2 => by simpa [setU] using h.n1 (by simpa using h1) (by simpa using h2)
  n2 := fun h1 h2 => by
    obtain ⟨g, e, _, hg⟩ := h.c5 (by simpa using h1)
    have hlt := hg.lt
    simp [setU, e] <;> omega
  c10 := fun h1 => by have := h.o10 (by simpa using h1); simp [hd] at this
  c11 := fun h1 => by have := h.o10 (h.o11 (by simpa using h1)); simp [hd] at this
  c12 := fun h1 => by simpa [setU] using h.c12 (by simpa using h1)
  o10 := fun h1 => by have := h.o10 (by simpa using h1); simp [hd] at this
  o11 := fun h1 => by simpa [setU] using h.o11 (by simpa using h1)
  o12 := fun h1 => by simpa [setU] using h.o12 (by simpa using h1)

theorem R2.s8 {ao : Option Addr} {n c : Nat} {G : Nat → Int} {w0 w : World} {d : Nat → Bool} {u : Nat → Value} (h : R2 ao n c G w0 d u w) : R2 ao n c G w0 (fun j => decide (j = 8) || d j) (setU u 16 (.int .i64 n)) w where
  bel := h.bel
  c0 := fun h1 => by simpa [setU] using h.c0 (by simpa using h1)
  c1 := fun h1 => by simpa [setU] using h.c1 (by simpa using h1)
  c2 := fun h1 => by simpa [setU] using h.c2 (by simpa using h1)
  c3 := fun h1 => by simpa [setU] using h.c3 (by simpa using h1)
  c4 := fun h1 => by simpa [setU] using h.c4 (by simpa using h1)
  c5 := fun h1 => by simpa [setU] using h.c5 (by simpa using h1)
  c6 := fun h1 => by simpa [setU] using h.c6 (by simpa using h1)
  c7 := fun h1 => by simpa [setU] using h.c7 (by simpa using h1)
  c8 := fun _ => by simp [setU]
  c9 := fun h1 => by simpa [setU] using h.c9 (by simpa using h1)
  n1 := fun h1 h2 => by simpa [setU] using h.n1 (by simpa using h1) (by simpa using h2)
  n2 := fun h1 h2 => by simpa [setU] using h.n2 (by simpa using h1) (by simpa using h2)
  c10 := fun h1 => by simpa [setU] using h.c10 (by simpa using h1)
  c11 := fun h1 => by simpa [setU] using h.c11 (by simpa using h1)
  c12 := fun h1 => by simpa [setU] using h.c12 (by simpa using h1)
  o10 := fun h1 => by simpa [setU] using h.o10 (by simpa using h1)
  o11 := fun h1 => by simpa [setU] using h.o11 (by simpa using h1)
  o12 := fun h1 => by simpa [setU] using h.o12 (by simpa using h1)

theorem R2.s9 {ao : Option Addr} {n c : Nat} {G : Nat → Int} {w0 w w' : World} {d : Nat → Bool} {u : Nat → Value} (h : R2 ao n c G w0 d u w) (hd : d 9 = false) (hb : Below w.heap.size w w') (hr : w'.rowIs w.heap.size 21 n (fun _ => .int .i32 0)) : R2 ao n c G w0 (fun j => decide (j = 9) || d j) (setU u 17 (.slice (some ⟨w.heap.size, 0, none⟩) n n)) w' where
  bel := h.bel.trans (hb.mono h.bel.size)
  c0 := fun h1 => by simpa [setU] using h.c0 (by simpa using h1)
  c1 := fun h1 => by simpa [setU] using (h.c1 (by simpa using h1)).later hb
  c2 := fun h1 => by simpa [setU] using h.c2 (by simpa using h1)
  c3 := fun h1 => by simpa [setU] using (h.c3 (by simpa using h1)).later hb
  c4 := fun h1 => by simpa [setU] using h.c4 (by simpa using h1)
  c5 := fun h1 => by simpa [setU] using (h.c5 (by simpa using h1)).later hb
  c6 := fun h1 => by simpa [setU] using h.c6 (by simpa using h1)
  c7 := fun h1 => by simpa [setU] using (h.c7 (by simpa using h1)).later hb
  c8 := fun h1 => by simpa [setU] using h.c8 (by simpa using h1)
  c9 := fun _ => ⟨_, by simp [setU], h.bel.size, hr⟩
  n1 := fun h1 h2 => by simpa [setU] using h.n1 (by simpa using h1) (by simpa using h2)
  n2 := fun h1 h2 => by simpa [setU] using h.n2 (by simpa using h1) (by simpa using h2)
  c10 := fun h1 => by have := h.o10 (by simpa using h1); simp [hd] at this
  c11 := fun h1 => by have := h.o10 (h.o11 (by simpa using h1)); simp [hd] at this
  c12 := fun h1 => by simpa [setU] using h.c12 (by simpa using h1)
  o10 := fun h1 => by have := h.o10 (by simpa using h1); simp [hd] at this
  o11 := fun h1 => by simpa [setU] using h.o11 (by simpa using h1)
  o12 := fun h1 => by simpa [setU] using h.o12 (by simpa using h1)

theorem R2.s10 {ao : Option Addr} {n c : Nat} {G : Nat → Int} {w0 w : World} {d : Nat → Bool} {u : Nat → Value} (h : R2 ao n c G w0 d u w) (hd : d 1 = true ∧ d 3 = true ∧ d 5 = true ∧ d 7 = true ∧ d 9 = true) : R2 ao n c G w0 (fun j => decide (j = 10) || d j) (setU u 18 (.agg #[u 9, u 11, u 13, u 15, u 17, .int .i64 0, .int .u64 0, .int .u64 0, .int .i64 0, .int .u64 0, .int .u64 0, .bool false, .int .i64 0, .int .i64 0])) w where
  bel := h.bel
  c0 := fun h1 => by simpa [setU] using h.c0 (by simpa using h1)
  c1 := fun h1 => by simpa [setU] using h.c1 (by simpa using h1)
  c2 := fun h1 => by simpa [setU] using h.c2 (by simpa using h1)
  c3 := fun h1 => by simpa [setU] using h.c3 (by simpa using h1)
  c4 := fun h1 => by simpa [setU] using h.c4 (by simpa using h1)
  c5 := fun h1 => by simpa [setU] using h.c5 (by simpa using h1)
  c6 := fun h1 => by simpa [setU] using h.c6 (by simpa using h1)
  c7 := fun h1 => by simpa [setU] using h.c7 (by simpa using h1)
  c8 := fun h1 => by simpa [setU] using h.c8 (by simpa using h1)
  c9 := fun h1 => by simpa [setU] using h.c9 (by simpa using h1)
  n1 := fun h1 h2 => by simpa [setU] using h.n1 (by simpa using h1) (by simpa using h2)
  n2 := fun h1 h2 => by simpa [setU] using h.n2 (by simpa using h1) (by simpa using h2)
  c10 := fun _ => by simp [setU]
  c11 := fun h1 => by simpa [setU] using h.c11 (by simpa using h1)
  c12 := fun h1 => by simpa [setU] using h.c12 (by simpa using h1)
  o10 := fun _ => by simpa using hd
  o11 := fun _ => by simp
  o12 := fun h1 => by simpa [setU] using h.o12 (by simpa using h1)

theorem R2.s11 {ao : Option Addr} {n c : Nat} {G : Nat → Int} {w0 w w' : World} {d : Nat → Bool} {u : Nat → Value} (h : R2 ao n c G w0 d u w) (hd : d 10 = true) (h12 : d 12 = false) (hb : Below w.heap.size w w') (hp : w'.heap[w.heap.size]? = some (.cells #[u 9, u 11, u 13, u 15, u 17, .int .i64 0, .int .u64 0, .int .u64 0, .int .i64 0, .int .u64 0, .int .u64 0, .bool false, .int .i64 0, .int .i64 0] 37 (0, 0))) : R2 ao n c G w0 (fun j => decide (j = 11) || d j) (setU u 19 (.pointer (some ⟨w.heap.size, 0, none⟩))) w' where
  bel := h.bel.trans (hb.mono h.bel.size)
  c0 := fun h1 => by simpa [setU] using h.c0 (by simpa using h1)
  c1 := fun h1 => by simpa [setU] using (h.c1 (by simpa using h1)).later hb
  c2 := fun h1 => by simpa [setU] using h.c2 (by simpa using h1)
  c3 := fun h1 => by simpa [setU] using (h.c3 (by simpa using h1)).later hb
  c4 := fun h1 => by simpa [setU] using h.c4 (by simpa using h1)
  c5 := fun h1 => by simpa [setU] using (h.c5 (by simpa using h1)).later hb
  c6 := fun h1 => by simpa [setU] using h.c6 (by simpa using h1)
  c7 := fun h1 => by simpa [setU] using (h.c7 (by simpa using h1)).later hb
  c8 := fun h1 => by simpa [setU] using h.c8 (by simpa using h1)
  c9 := fun h1 => by simpa [setU] using (h.c9 (by simpa using h1)).later hb
  n1 := fun h1 h2 => by simpa [setU] using h.n1 (by simpa using h1) (by simpa using h2)
  n2 := fun h1 h2 => by simpa [setU] using h.n2 (by simpa using h1) (by simpa using h2)
  c10 := fun h1 => by simpa [setU] using h.c10 (by simpa using h1)
  c11 := fun _ => ⟨_, by simp [setU], h.bel.size, by simpa [setU] using hp⟩
  c12 := fun h1 => by simp [h12] at h1
  o10 := fun h1 => by simpa [setU] using h.o10 (by simpa using h1)
  o11 := fun _ => by simpa using hd
  o12 := fun _ => by simp

theorem R2.s12 {ao : Option Addr} {n c : Nat} {G : Nat → Int} {w0 w : World} {d : Nat → Bool} {u : Nat → Value} (h : R2 ao n c G w0 d u w) (hd : d 11 = true) : R2 ao n c G w0 (fun j => decide (j = 12) || d j) (setU u 4 (u 19)) w where
  bel := h.bel
  c0 := fun h1 => by simpa [setU] using h.c0 (by simpa using h1)
  c1 := fun h1 => by simpa [setU] using h.c1 (by simpa using h1)
  c2 := fun h1 => by simpa [setU] using h.c2 (by simpa using h1)
  c3 := fun h1 => by simpa [setU] using h.c3 (by simpa using h1)
  c4 := fun h1 => by simpa [setU] using h.c4 (by simpa using h1)
  c5 := fun h1 => by simpa [setU] using h.c5 (by simpa using h1)
  c6 := fun h1 => by simpa [setU] using h.c6 (by simpa using h1)
  c7 := fun h1 => by simpa [setU] using h.c7 (by simpa using h1)
  c8 := fun h1 => by simpa [setU] using h.c8 (by simpa using h1)
  c9 := fun h1 => by simpa [setU] using h.c9 (by simpa using h1)
  n1 := fun h1 h2 => by simpa [setU] using h.n1 (by simpa using h1) (by simpa using h2)
  n2 := fun h1 h2 => by simpa [setU] using h.n2 (by simpa using h1) (by simpa using h2)
  c10 := fun h1 => by simpa [setU] using h.c10 (by simpa using h1)
  c11 := fun h1 => by simpa [setU] using h.c11 (by simpa using h1)
  c12 := fun _ => by simp [setU]
  o10 := fun h1 => by simpa [setU] using h.o10 (by simpa using h1)
  o11 := fun h1 => by simpa [setU] using h.o11 (by simpa using h1)
  o12 := fun _ => by simpa using hd

/-- How many of the first k gaps are odd. -/
def odds (G : Nat → Int) : Nat → Int
  | 0 => 0
  | k + 1 => odds G k + G k % 2
theorem odds_bd (G : Nat → Int) (k : Nat) : 0 ≤ odds G k ∧ odds G k ≤ k := by
  induction k with
  | zero => simp [odds]
  | succ k ih => simp only [odds]; omega

/-- The first k of f, 0 behind. -/
def firsts (f : Nat → Int) (k i : Nat) : Int := if i < k then f i else 0
theorem upd_firsts (f : Nat → Int) (k i : Nat) : upd (firsts f k) k (f k) i = firsts f (k + 1) i := by
  unfold upd firsts
  by_cases h : i = k
  · subst h; simp
  · by_cases h2 : i < k
    · rw [if_neg h, if_pos h2, if_pos (by omega)]
    · rw [if_neg h, if_neg h2, if_neg (by omega)]

theorem Led.congr {w : World} {b bi bs bl bt ba n : Nat} {I S L T A I' S' L' T' A' : Nat → Int} {sd rs gr nd r2 g2 : Int} {ok : Bool} (h : Led w b bi bs bl bt ba n I S L T A sd rs gr nd r2 g2 ok)
    (hI : ∀ i, i < n → I i = I' i) (hS : ∀ i, i < n → S i = S' i) (hL : ∀ i, i < n → L i = L' i) (hT : ∀ i, i < n → T i = T' i) (hA : ∀ i, i < n → A i = A' i) : Led w b bi bs bl bt ba n I' S' L' T' A' sd rs gr nd r2 g2 ok :=
  ⟨h.blk, h.ids.congr (fun i hi => by rw [hI i hi]), h.stamp.congr (fun i hi => by rw [hS i hi]), h.load.congr (fun i hi => by rw [hL i hi]), h.sent.congr (fun i hi => by rw [hT i hi]), h.areas.congr (fun i hi => by rw [hA i hi]), h.apart⟩

/-- One store of the round: the world behind it, under a name. -/
theorem step_world {w wr X : World} {ao : Option Addr} {n b off : Nat} {G S L : Nat → Int} {LD : World → Prop} (hE : Ents wr ao n b off G S L) (hb : Below w.heap.size w wr) (hX : Below wr.heap.size wr X ∨ ∃ q : Addr, ∃ v : Value, X = (wr.setCell q v).drew ∧ w.heap.size ≤ q.block ∧ (0 < n → b < w.heap.size)) (hL : LD X) :
    ∃ w1, w1 = X ∧ LD w1 ∧ Below w.heap.size w w1 ∧ Ents w1 ao n b off G S L := by
  rcases hX with h | ⟨q, v, rfl, hq, hlt⟩
  · exact ⟨X, rfl, hL, hb.trans (h.mono hb.size), hE.later h⟩
  · refine ⟨_, rfl, hL, (hb.setCell hq v).drew, ?_⟩
    have e : ∀ a : Addr, a.block = b → 0 < n → (wr.setCell q v).drew.cell? a = wr.cell? a := fun a ha h0 => by
      have := hlt h0
      exact World.cell?_of_block (w := wr) (Deep.blk_setCell_other _ _ _ _ (by omega))
    exact ⟨hE.out, fun h0 => by simpa using hE.lt h0, fun i hi => (e _ rfl (by omega)).trans (hE.gap i hi), fun i hi => (e _ rfl (by omega)).trans (hE.stamp i hi), fun i hi => (e _ rfl (by omega)).trans (hE.load i hi), hE.gapB, hE.stampB⟩

/-- What the region leaves. -/
theorem R2.led {ao : Option Addr} {n c : Nat} {G : Nat → Int} {w0 w : World} {d : Nat → Bool} {u : Nat → Value} (h : R2 ao n c G w0 d u w) (hall : ∀ i, i < 13 → d i = true) :
    ∃ p bi bs bl bt ba, u 4 = .pointer (some ⟨p, 0, none⟩) ∧ (∀ g, g ∈ [p, bi, bs, bl, bt, ba] → w0.heap.size ≤ g) ∧
      Led w p bi bs bl bt ba n (fun i => idOf G (i + 1)) (fun _ => 0) (fun _ => 0) (fun _ => 0) (fun _ => 0) 0 0 0 0 0 0 false := by
  obtain ⟨bi, e9, l9, r9⟩ := h.c1 (hall 1 (by omega))
  obtain ⟨bs, e11, l11, r11⟩ := h.c3 (hall 3 (by omega))
  obtain ⟨bl, e13, l13, r13⟩ := h.c5 (hall 5 (by omega))
  obtain ⟨bt, e15, l15, r15⟩ := h.c7 (hall 7 (by omega))
  obtain ⟨ba, e17, l17, r17⟩ := h.c9 (hall 9 (by omega))
  obtain ⟨p, e19, l19, hp⟩ := h.c11 (hall 11 (by omega))
  have n1 := h.n1 (hall 1 (by omega)) (hall 3 (by omega))
  have n2 := h.n2 (hall 5 (by omega)) (hall 7 (by omega))
  refine ⟨p, bi, bs, bl, bt, ba, (h.c12 (hall 12 (by omega))).trans e19, ?_, ⟨?_, r9, r11, r13, r15, r17, ?_, ?_⟩⟩
  · intro g hg
    simp only [List.mem_cons, List.not_mem_nil, or_false] at hg
    rcases hg with rfl | rfl | rfl | rfl | rfl | rfl <;> assumption
  · rw [hp, e9, e11, e13, e15, e17]; rfl
  · rintro rfl; exact n1 (e9.trans e11.symm)
  · rintro rfl; exact n2 (e13.trans e15.symm)

set_option maxRecDepth 100000 in
set_option maxHeartbeats 4000000 in
theorem build_any (ao : Option Addr) (n c b off : Nat) (G S L : Nat → Int) (hn : n ≤ 1024) (w : World) (hE : Ents w ao n b off G S L) :
    Calls Yba.prog 5 #[.slice ao n c] w fun e w' => ∃ p bi bs bl bt ba, e = .returned (.pointer (some ⟨p, 0, none⟩)) ∧ Below w.heap.size w w' ∧ (∀ g, g ∈ [p, bi, bs, bl, bt, ba] → w.heap.size ≤ g) ∧
      Led w' p bi bs bl bt ba n (fun i => idOf G (i + 1)) S L (fun i => G i % 2) (fun i => G i + 1) (odds G n) 0 0 0 0 0 false := by
  go_enter Yba.func5, Yba.ntmps5
  go_upto_region 2 with fail
  refine wp_region_inv mixed (back_of (by kernel_rfl)) (fun d a w' => ∃ u, a = fr5 ao n c u ∧ R2 ao n c G w d u w') ?_ ?_ ?_
  · exact ⟨fun _ => undef, rfl, (Below.refl _ _).drew, by simp, by simp, by simp, by simp, by simp, by simp, by simp, by simp, by simp, by simp, by simp, by simp, by simp, by simp, by simp, by simp, by simp, by simp⟩
  · intro d a wx i o hI ho hd hdep
    obtain ⟨u, rfl, hR⟩ := hI
    match i with
    | 0 =>
      have ho' := ho
      simp at ho; subst ho
      simp [Region.binds] at hdep
      refine wpOp_plain ho' rfl ?_
      clear ho'
      unfold Oper.wp
      simp only [execOp, fr5]
      go_simp
      exact ⟨_, by simp [setU], hR.s0⟩
    | 1 =>
      have ho' := ho
      simp at ho; subst ho
      simp [Region.binds] at hdep
      refine wpOp_plain ho' rfl ?_
      clear ho'
      have e0 := hR.c0 hdep
      unfold Oper.wp
      simp only [execOp, fr5]
      go_simp
      refine (ids_any ao n c b off G S L hn wx (hE.later hR.bel)).mono ?_
      rintro e w' ⟨rfl, hb, hr⟩
      exact ⟨_, by simp [setU, e0], hR.s1 hd hb hr⟩
    | 2 =>
      have ho' := ho
      simp at ho; subst ho
      simp [Region.binds] at hdep
      refine wpOp_plain ho' rfl ?_
      clear ho'
      unfold Oper.wp
      simp only [execOp, fr5]
      go_simp
      exact ⟨_, by simp [setU], hR.s2⟩
    | 3 =>
      have ho' := ho
      simp at ho; subst ho
      simp [Region.binds] at hdep
      refine wpOp_plain ho' rfl ?_
      clear ho'
      have e0 := hR.c2 hdep
      have hmk := make31 n hn
      unfold Oper.wp
      simp only [execOp, fr5]
      go_simp
      exact ⟨_, by simp [setU, e0], hR.s3 hd ((Below.refl _ _).alloc (Nat.le_refl _) _) (World.rowIs_made wx (.int .u64 0) n 23)⟩
    | 4 =>
      have ho' := ho
      simp at ho; subst ho
      simp [Region.binds] at hdep
      refine wpOp_plain ho' rfl ?_
      clear ho'
      unfold Oper.wp
      simp only [execOp, fr5]
      go_simp
      exact ⟨_, by simp [setU], hR.s4⟩
    | 5 =>
      have ho' := ho
      simp at ho; subst ho
      simp [Region.binds] at hdep
      refine wpOp_plain ho' rfl ?_
      clear ho'
      have e0 := hR.c4 hdep
      have hmk := make32 n hn
      unfold Oper.wp
      simp only [execOp, fr5]
      go_simp
      exact ⟨_, by simp [setU, e0], hR.s5 hd ((Below.refl _ _).alloc (Nat.le_refl _) _) (World.rowIs_made wx (.int .i64 0) n 3)⟩
    | 6 =>
      have ho' := ho
      simp at ho; subst ho
      simp [Region.binds] at hdep
      refine wpOp_plain ho' rfl ?_
      clear ho'
      unfold Oper.wp
      simp only [execOp, fr5]
      go_simp
      exact ⟨_, by simp [setU], hR.s6⟩
    | 7 =>
      have ho' := ho
      simp at ho; subst ho
      simp [Region.binds] at hdep
      refine wpOp_plain ho' rfl ?_
      clear ho'
      have e0 := hR.c6 hdep
      have hmk := make32 n hn
      unfold Oper.wp
      simp only [execOp, fr5]
      go_simp
      exact ⟨_, by simp [setU, e0], hR.s7 hd ((Below.refl _ _).alloc (Nat.le_refl _) _) (World.rowIs_made wx (.int .i64 0) n 3)⟩
    | 8 =>
      have ho' := ho
      simp at ho; subst ho
      simp [Region.binds] at hdep
      refine wpOp_plain ho' rfl ?_
      clear ho'
      unfold Oper.wp
      simp only [execOp, fr5]
      go_simp
      exact ⟨_, by simp [setU], hR.s8⟩
    | 9 =>
      have ho' := ho
      simp at ho; subst ho
      simp [Region.binds] at hdep
      refine wpOp_plain ho' rfl ?_
      clear ho'
      have e0 := hR.c8 hdep
      have hmk := make33 n hn
      unfold Oper.wp
      simp only [execOp, fr5]
      go_simp
      exact ⟨_, by simp [setU, e0], hR.s9 hd ((Below.refl _ _).alloc (Nat.le_refl _) _) (World.rowIs_made wx (.int .i32 0) n 21)⟩
    | 10 =>
      have ho' := ho
      simp at ho; subst ho
      simp [Region.binds] at hdep
      refine wpOp_plain ho' rfl ?_
      clear ho'
      obtain ⟨g9, e9, _⟩ := hR.c1 hdep.1
      obtain ⟨g11, e11, _⟩ := hR.c3 hdep.2.1
      obtain ⟨g13, e13, _⟩ := hR.c5 hdep.2.2.1
      obtain ⟨g15, e15, _⟩ := hR.c7 hdep.2.2.2.1
      obtain ⟨g17, e17, _⟩ := hR.c9 hdep.2.2.2.2
      unfold Oper.wp
      simp only [execOp, fr5]
      go_simp
      exact ⟨_, by simp [setU, e9, e11, e13, e15, e17], hR.s10 hdep⟩
    | 11 =>
      have ho' := ho
      simp at ho; subst ho
      simp [Region.binds] at hdep
      refine wpOp_plain ho' rfl ?_
      clear ho'
      have e18 := hR.c10 hdep
      obtain ⟨d1, d3, d5, d7, d9⟩ := hR.o10 hdep
      obtain ⟨g9, e9, _⟩ := hR.c1 d1
      obtain ⟨g11, e11, _⟩ := hR.c3 d3
      obtain ⟨g13, e13, _⟩ := hR.c5 d5
      obtain ⟨g15, e15, _⟩ := hR.c7 d7
      obtain ⟨g17, e17, _⟩ := hR.c9 d9
      have h12 : d 12 = false := by
        cases h : d 12 with
        | false => rfl
        | true => rw [hR.o12 h] at hd; cases hd
      have hs := hR.s11 (w' := wx.alloc (.cells #[u 9, u 11, u 13, u 15, u 17, .int .i64 0, .int .u64 0, .int .u64 0, .int .i64 0, .int .u64 0, .int .u64 0, .bool false, .int .i64 0, .int .i64 0] 37)) hdep h12 ((Below.refl _ _).alloc (Nat.le_refl _) _) (Deep.blk_alloc_new _ _)
      rw [e9, e11, e13, e15, e17] at e18 hs
      unfold Oper.wp
      simp only [execOp, fr5]
      go_simp
      exact ⟨_, by simp [setU, e9, e11, e13, e15, e17, e18], hs⟩
    | 12 =>
      have ho' := ho
      simp at ho; subst ho
      simp [Region.binds] at hdep
      refine wpOp_plain ho' rfl ?_
      clear ho'
      unfold Oper.wp
      simp only [execOp, fr5]
      go_simp
      exact ⟨_, by simp [setU], hR.s12 hdep.1⟩
    | i + 13 => simp at ho
  · intro d a wx hI hall
    obtain ⟨u, rfl, hR⟩ := hI
    have hbel := hR.bel
    obtain ⟨p, bi, bs, bl, bt, ba, e4, hge, hLed⟩ := hR.led (fun i hi => hall i (by simpa using hi))
    clear hR hall
    unfold fr5
    rw [e4]
    generalize u 8 = u8; generalize u 9 = u9; generalize u 10 = u10; generalize u 11 = u11; generalize u 12 = u12; generalize u 13 = u13; generalize u 14 = u14; generalize u 15 = u15; generalize u 16 = u16; generalize u 17 = u17; generalize u 18 = u18; generalize u 19 = u19
    clear e4
    have hL0 : Led wx p bi bs bl bt ba n (fun i => idOf G (i + 1)) (firsts S 0) (firsts L 0) (firsts (fun i => G i % 2) 0) (firsts (fun i => G i + 1) 0) (odds G 0) 0 0 0 0 0 false := hLed.congr (fun _ _ => rfl) (fun _ _ => by simp [firsts]) (fun _ _ => by simp [firsts]) (fun _ _ => by simp [firsts]) (fun _ _ => by simp [firsts])
    have HL0 : Hid (Led wx p bi bs bl bt ba n (fun i => idOf G (i + 1)) (firsts S 0) (firsts L 0) (firsts (fun i => G i % 2) 0) (firsts (fun i => G i + 1) 0) (odds G 0) 0 0 0 0 0 false) := hL0
    clear hL0 hLed
    go_wp2
    go_loopw [5] (fun i wr => ∃ k : Nat, k ≤ n ∧ i = .int .i64 k ∧ Below w.heap.size w wr ∧ Led wr p bi bs bl bt ba n (fun i => idOf G (i + 1)) (firsts S k) (firsts L k) (firsts (fun i => G i % 2) k) (firsts (fun i => G i + 1) k) (odds G k) 0 0 0 0 0 false) (fun i _ => n - (intOf i).toNat)
    case atStart => exact ⟨0, Nat.zero_le _, rfl, hbel, HL0.out⟩
    case round =>
      obtain ⟨k, hk, rfl, hbr, hLr⟩ := hrel
      clear HL0 hbel
      by_cases hlt : k < n
      · have hout := hE.out (by omega)
        subst hout
        have hEr := hE.later hbr
        have hgap := hEr.gap k hlt
        have hst := hEr.stamp k hlt
        have hld := hEr.load k hlt
        have hEl := hEr.lt (by omega)
        obtain ⟨g0, g1⟩ := hE.gapB k hlt
        obtain ⟨q0, q1⟩ := odds_bd G k
        obtain ⟨c0, c1, c2, c3, c4, c5, _⟩ := hLr.cells
        have r1 := hLr.stamp.cell hlt
        have f1 := hLr.stamp.frozen k
        have HL : Hid (Led wr p bi bs bl bt ba n (fun i => idOf G (i + 1)) (firsts S k) (firsts L k) (firsts (fun i => G i % 2) k) (firsts (fun i => G i + 1) k) (odds G k) 0 0 0 0 0 false) := hLr
        have HE : Hid (Ents wr (some ⟨b, off, none⟩) n b off G S L) := hEr
        clear hLr hEr
        have i1 : (k : Int) < (n : Int) := by omega
        have i0 : (0 : Int) ≤ (k : Int) := by omega
        go_wp2
        go_region
        obtain ⟨w1, hw1, hL1, hb1, hE1⟩ := step_world (LD := fun x => Led x p bi bs bl bt ba n (fun i => idOf G (i + 1)) (upd (firsts S k) k (S k)) (firsts L k) (firsts (fun i => G i % 2) k) (firsts (fun i => G i + 1) k) (odds G k) 0 0 0 0 0 false) HE.out hbr (X := (wr.setCell ⟨bs, k, none⟩ (.int .u64 (S k))).drew) (.inr ⟨_, _, rfl, hge _ (by simp), hE.lt⟩) ((HL.out.setS k _).drew)
        rw [← hw1]
        clear hw1 HL HE hbr c0 c1 c2 c3 c4 c5 hgap hst hld r1 f1
        have hgap := hE1.gap k hlt
        have hst := hE1.stamp k hlt
        have hld := hE1.load k hlt
        obtain ⟨c0, c1, c2, c3, c4, c5, _⟩ := hL1.cells
        have r1 := hL1.load.cell hlt
        have f1 := hL1.load.frozen k
        have HL1 : Hid (Led w1 p bi bs bl bt ba n (fun i => idOf G (i + 1)) (upd (firsts S k) k (S k)) (firsts L k) (firsts (fun i => G i % 2) k) (firsts (fun i => G i + 1) k) (odds G k) 0 0 0 0 0 false) := hL1
        have HE1 : Hid (Ents w1 (some ⟨b, off, none⟩) n b off G S L) := hE1
        clear hL1 hE1
        go_wp2
        go_region
        obtain ⟨w2, hw2, hL2, hb2, hE2⟩ := step_world (LD := fun x => Led x p bi bs bl bt ba n (fun i => idOf G (i + 1)) (upd (firsts S k) k (S k)) (upd (firsts L k) k (L k)) (firsts (fun i => G i % 2) k) (firsts (fun i => G i + 1) k) (odds G k) 0 0 0 0 0 false) HE1.out hb1 (X := (w1.setCell ⟨bl, k, none⟩ (.int .i64 (L k))).drew) (.inr ⟨_, _, rfl, hge _ (by simp), hE.lt⟩) ((HL1.out.setL k _).drew)
        rw [← hw2]
        clear hw2 HL1 HE1 hb1 c0 c1 c2 c3 c4 c5 hgap hst hld r1 f1
        have hgap := hE2.gap k hlt
        have hst := hE2.stamp k hlt
        have hld := hE2.load k hlt
        obtain ⟨c0, c1, c2, c3, c4, c5, _⟩ := hL2.cells
        have r1 := hL2.sent.cell hlt
        have f1 := hL2.sent.frozen k
        have HL2 : Hid (Led w2 p bi bs bl bt ba n (fun i => idOf G (i + 1)) (upd (firsts S k) k (S k)) (upd (firsts L k) k (L k)) (firsts (fun i => G i % 2) k) (firsts (fun i => G i + 1) k) (odds G k) 0 0 0 0 0 false) := hL2
        have HE2 : Hid (Ents w2 (some ⟨b, off, none⟩) n b off G S L) := hE2
        clear hL2 hE2
        go_wp2
        go_region
        obtain ⟨w3, hw3, hL3, hb3, hE3⟩ := step_world (LD := fun x => Led x p bi bs bl bt ba n (fun i => idOf G (i + 1)) (upd (firsts S k) k (S k)) (upd (firsts L k) k (L k)) (upd (firsts (fun i => G i % 2) k) k (G k % 2)) (firsts (fun i => G i + 1) k) (odds G k) 0 0 0 0 0 false) HE2.out hb2 (X := (w2.setCell ⟨bt, k, none⟩ (.int .i64 (G k % 2))).drew) (.inr ⟨_, _, rfl, hge _ (by simp), hE.lt⟩) ((HL2.out.setT k _).drew)
        rw [← hw3]
        clear hw3 HL2 HE2 hb2 c0 c1 c2 c3 c4 c5 hgap hst hld r1 f1
        have hgap := hE3.gap k hlt
        have hst := hE3.stamp k hlt
        have hld := hE3.load k hlt
        obtain ⟨c0, c1, c2, c3, c4, c5, _⟩ := hL3.cells
        have r1 := hL3.areas.cell hlt
        have f1 := hL3.areas.frozen k
        have HL3 : Hid (Led w3 p bi bs bl bt ba n (fun i => idOf G (i + 1)) (upd (firsts S k) k (S k)) (upd (firsts L k) k (L k)) (upd (firsts (fun i => G i % 2) k) k (G k % 2)) (firsts (fun i => G i + 1) k) (odds G k) 0 0 0 0 0 false) := hL3
        have HE3 : Hid (Ents w3 (some ⟨b, off, none⟩) n b off G S L) := hE3
        clear hL3 hE3
        go_wp2
        go_region
        obtain ⟨w4, hw4, hL4, hb4, hE4⟩ := step_world (LD := fun x => Led x p bi bs bl bt ba n (fun i => idOf G (i + 1)) (upd (firsts S k) k (S k)) (upd (firsts L k) k (L k)) (upd (firsts (fun i => G i % 2) k) k (G k % 2)) (upd (firsts (fun i => G i + 1) k) k (G k + 1)) (odds G k) 0 0 0 0 0 false) HE3.out hb3 (X := (w3.setCell ⟨ba, k, none⟩ (.int .i32 (G k + 1))).drew) (.inr ⟨_, _, rfl, hge _ (by simp), hE.lt⟩) ((HL3.out.setA k _).drew)
        rw [← hw4]
        clear hw4 HL3 HE3 hb3 c0 c1 c2 c3 c4 c5 hgap hst hld r1 f1
        have hgap := hE4.gap k hlt
        have hst := hE4.stamp k hlt
        have hld := hE4.load k hlt
        obtain ⟨c0, c1, c2, c3, c4, c5, _⟩ := hL4.cells
        have r1 := hL4.sent.cell hlt
        have f1 := hL4.free 5
        simp only [upd, if_true] at r1
        have HL4 : Hid (Led w4 p bi bs bl bt ba n (fun i => idOf G (i + 1)) (upd (firsts S k) k (S k)) (upd (firsts L k) k (L k)) (upd (firsts (fun i => G i % 2) k) k (G k % 2)) (upd (firsts (fun i => G i + 1) k) k (G k + 1)) (odds G k) 0 0 0 0 0 false) := hL4
        have HE4 : Hid (Ents w4 (some ⟨b, off, none⟩) n b off G S L) := hE4
        clear hL4 hE4
        by_cases hodd : 0 < G k % 2
        · go_wp2
          go_roundw
          case rel =>
            refine ⟨k + 1, by omega, by go_num, hb4.setCell (hge _ (by simp)) _, ?_⟩
            have e : odds G (k + 1) = odds G k + 1 := by simp only [odds]; omega
            rw [e]
            exact (HL4.out.setSending _).congr (fun _ _ => rfl) (fun i _ => upd_firsts S k i) (fun i _ => upd_firsts L k i) (fun i _ => upd_firsts (fun i => G i % 2) k i) (fun i _ => upd_firsts (fun i => G i + 1) k i)
          case measure => simp [intOf]; omega
        · go_wp2
          go_roundw
          case rel =>
            have e : odds G (k + 1) = odds G k := by simp only [odds]; omega
            refine ⟨k + 1, by omega, by go_num, hb4, ?_⟩
            rw [e]
            exact HL4.out.congr (fun _ _ => rfl) (fun i _ => upd_firsts S k i) (fun i _ => upd_firsts L k i) (fun i _ => upd_firsts (fun i => G i % 2) k i) (fun i _ => upd_firsts (fun i => G i + 1) k i)
          case measure => simp [intOf]; omega
      · have hkn : k = n := by omega
        subst hkn
        have HL : Hid (Led wr p bi bs bl bt ba k (fun i => idOf G (i + 1)) (firsts S k) (firsts L k) (firsts (fun i => G i % 2) k) (firsts (fun i => G i + 1) k) (odds G k) 0 0 0 0 0 false) := hLr
        clear hLr
        go_wp2
        go_ret
        refine ⟨p, bi, bs, bl, bt, ba, rfl, hbr, hge, HL.out.congr (fun _ _ => rfl) ?_ ?_ ?_ ?_⟩ <;> (intro i hi; simp [firsts, hi])
end Go.Proofs.Ybulkdkrk.lawS5587AWhole
