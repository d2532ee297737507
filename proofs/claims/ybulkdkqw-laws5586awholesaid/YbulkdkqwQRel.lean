import Derived.Test.YbulkdkqwQCar
namespace Go.Proofs.Ybulkdkqw.lawS5586AWhole
open Go.ChangeShapes Go.WideShapes Go.ChangeAt Go.RowKit

/-- Of what was there, only rows of type t may have turned. -/
structure TOnly (t : TypeId) (w w' : World) : Prop where
  size : w.heap.size ≤ w'.heap.size
  block : ∀ b, b < w.heap.size → (∀ cur, w.heap[b]? ≠ some (.cells cur t (0, 0))) → w'.heap[b]? = w.heap[b]?

section
variable {w w' w0 : World} {B C no m : Nat} {KB : Nat → Nat} {FF : Nat → Int → Value} {SS : Nat → Int → List KM} {NN : Nat → Nat} {t t' : TypeId}

theorem cells_ne2 {b : Nat} {c : Array Value} (h : w.heap[b]? = some (.cells c t (0, 0))) (ht : t ≠ t') : ∀ cur, w.heap[b]? ≠ some (.cells cur t' (0, 0)) := fun cur e => by
  rw [h] at e
  injection e with e
  injection e with _ e
  exact ht e
theorem mapF_ne2 {b n : Nat} {F : Int → Option Value} (h : MapF w b F n) : ∀ cur, w.heap[b]? ≠ some (.cells cur t (0, 0)) := fun cur e => by
  obtain ⟨D, ⟨es, clock, hb, _⟩, _⟩ := h
  rw [hb] at e
  cases e
theorem TOnly.of_row {r : Option Nat} (h : w.grownBy w' r) (hr : ∀ g, r = some g → ∃ cur, w.heap[g]? = some (.cells cur t (0, 0))) : TOnly t w w' :=
  ⟨h.size, fun b hb h1 => h.block b hb (fun e => by
    obtain ⟨cur, hc⟩ := hr b e.symm
    exact h1 cur hc)⟩
theorem MapF.tonly {b n : Nat} {F : Int → Option Value} (h : MapF w b F n) (hk : TOnly t w w') : MapF w' b F n := h.of_block (hk.block _ h.lt (mapF_ne2 h))
theorem Sl.tonly {α : Type} {E : Enc α} {v : Value} {L : List α} (h : Sl E t w B v L) (ht : t ≠ t') (hk : TOnly t' w w') : Sl E t w' B v L := h.of_block (fun g hg => by
  obtain ⟨cur, hc⟩ := h.typed hg
  exact hk.block g (h.lt hg).2 (cells_ne2 hc ht))
theorem KeptAll.tonly (h : KeptAll w B no KB FF SS NN m) (ht : 63 ≠ t) (hk : TOnly t w w') : KeptAll w' B no KB FF SS NN m :=
  { h with
    map := fun o ho => (h.map o ho).tonly hk
    row := fun o a ho hn => (h.row o a ho hn).tonly ht hk }
theorem Sl.konly {α : Type} {E : Enc α} {v : Value} {L : List α} {Rb pm um nm : Nat} {ps : List Peer} (h : Sl E t w C v L) (ht : t ≠ 63) (hs : Sep w Rb pm um nm ps no KB) (hk : KOnly no KB w w') : Sl E t w' C v L := h.of_block (fun g hg => by
  obtain ⟨cur, hc⟩ := h.typed hg
  exact hk.block g (h.lt hg).2 (cells_ne hc ht) (hs.ne hc))
theorem KOnly.push {r : Option Nat} (h : KOnly no KB w0 w) (hg : w.grownBy w' r) (hr : ∀ g, r = some g → w0.heap.size ≤ g) : KOnly no KB w0 w' :=
  ⟨hg.os.trans h.os, hg.tape.trans h.tape, hg.output.trans h.output, Nat.le_trans h.size hg.size, fun b hb h1 h2 =>
    (hg.block b (Nat.lt_of_lt_of_le hb h.size) (fun e => by have := hr b e.symm; omega)).trans (h.block b hb h1 h2), fun b hb h0 =>
    (hg.block b (Nat.lt_of_lt_of_le hb h.size) (fun e => by have := hr b e.symm; omega)).trans (h.low b hb h0)⟩
end

/-- A relay: a message's slice, and to whom. -/
structure RL where
  mo : Option Addr
  ml : Nat
  mc : Nat
  ta : Option Addr
  tl : Nat
  tc : Nat
  ts : List Int
def ER : Enc RL := ⟨2, fun r => [.slice r.mo r.ml r.mc, .slice r.ta r.tl r.tc], fun _ => rfl, fun _ u hu => by simp at hu; rcases hu with rfl | rfl <;> rfl⟩
theorem info66 : (Yba.prog.info? 66).map (fun i => (i.zero, i.size, i.bytes)) = some (some (.agg #[.slice none 0 0, .slice none 0 0]), 2, 48) := by kernel_rfl

/-- A message's slice. -/
structure Msg where
  mo : Option Addr
  ml : Nat
  mc : Nat

/-- A slice of relays, each with a row of its own. -/
def Got (w : World) (C : Nat) (v : Value) (G : List (Msg × List Int)) : Prop :=
  ∃ L : List RL, Sl ER 66 w C v L ∧ (∀ r ∈ L, Sl E64 22 w C (.slice r.ta r.tl r.tc) r.ts) ∧ L.map (fun r => (⟨r.mo, r.ml, r.mc⟩, r.ts)) = G

section
variable {w w' : World} {C no : Nat} {KB : Nat → Nat} {v : Value} {G : List (Msg × List Int)}
theorem Got.nil (w : World) (C : Nat) : Got w C (.slice none 0 0) [] := ⟨[], Sl.nil _ _, by simp, rfl⟩
theorem Got.later (h : Got w C v G) (hb : Below w.heap.size w w') : Got w' C v G := by
  obtain ⟨L, h1, h2, h3⟩ := h
  exact ⟨L, h1.later hb, fun r hr => (h2 r hr).later hb, h3⟩
theorem Got.konly {Rb pm um nm : Nat} {ps : List Peer} (h : Got w C v G) (hs : Sep w Rb pm um nm ps no KB) (hk : KOnly no KB w w') : Got w' C v G := by
  obtain ⟨L, h1, h2, h3⟩ := h
  exact ⟨L, h1.konly (by decide) hs hk, fun r hr => (h2 r hr).konly (by decide) hs hk, h3⟩
theorem Got.tonly {t : TypeId} (h : Got w C v G) (h66 : 66 ≠ t) (h22 : 22 ≠ t) (hk : TOnly t w w') : Got w' C v G := by
  obtain ⟨L, h1, h2, h3⟩ := h
  exact ⟨L, h1.tonly h66 hk, fun r hr => (h2 r hr).tonly h22 hk, h3⟩
theorem Got.len (h : Got w C v G) : ∃ ao cap, v = .slice ao G.length cap := by
  obtain ⟨L, h1, h2, h3⟩ := h
  obtain ⟨ao, cap, rfl, _⟩ := h1.open
  exact ⟨ao, cap, by rw [← h3, List.length_map]⟩
/-- One more relay. -/
theorem Got.push (h : Got w C v G) (hC : C ≤ w.heap.size) (hl : G.length < 100000) (g : Msg) {ta : Option Addr} {tl tc : Nat} {ts : List Int} (ht : Sl E64 22 w C (.slice ta tl tc) ts) :
    ∃ v' w', (Builtin.append_ #[46, 46] 46 #[v, .slice (some ⟨w.heap.size, 0, none⟩) 1 1]).run Yba.prog (w.alloc (.cells #[.slice g.mo g.ml g.mc, .slice ta tl tc] 66)) = .ok v' w' ∧ Got w' C v' (G ++ [(g, ts)]) ∧ w.grownBy w' v.ownBlock ∧ (∀ k, v.ownBlock = some k → C ≤ k) ∧ TOnly 66 w w' := by
  obtain ⟨L, h1, h2, h3⟩ := h
  obtain ⟨v', w', hr, hS, hg, _⟩ := h1.push (T := 46) Yba.underlying46 info66 rfl (by decide) hC (by rw [← h3, List.length_map] at hl; omega) (by decide) ⟨g.mo, g.ml, g.mc, ta, tl, tc, ts⟩ #[.slice g.mo g.ml g.mc, .slice ta tl tc] rfl
  have ht66 : TOnly 66 w w' := TOnly.of_row hg (fun k hk => h1.typed hk)
  refine ⟨v', w', hr, ⟨L ++ [⟨g.mo, g.ml, g.mc, ta, tl, tc, ts⟩], hS, fun r hr => ?_, by simp [h3]⟩, hg, fun k hk => (h1.lt hk).1, ht66⟩
  rcases List.mem_append.1 hr with hr | hr
  · exact (h2 r hr).tonly (by decide) ht66
  · simp at hr; subst hr
    exact ht.tonly (by decide) ht66
end

/-- What is kept of an envelope. -/
def km (e : Env) (g : Msg) (sf : Int) : KM := ⟨e.seq, g.mo, g.ml, g.mc, sf⟩
/-- The owner's number of a peer. -/
def ownOf (ps : List Peer) (a : Int) : Nat := ps.findIdx (fun p => p.id == a) + 1

/-- One envelope: what is kept. -/
def stepS (ps : List Peer) (unm ids : List Int) (sf : Int) (up : Int → Int) (SS : Nat → Int → List KM) (x : Env × Msg) : Nat → Int → List KM :=
  if x.1.origin = sf then (if x.1.seq ≤ up x.1.name then set2 SS 0 x.1.name (ins (SS 0 x.1.name) (km x.1 x.2 sf)) else SS)
  else match ps.find? (fun p => p.id == x.1.origin) with
    | none => SS
    | some p => if (decide ((nowF ps ids sf p (ids.filter (lackId ps x.1.name x.1.seq sf))).length < (ids.filter (lackId ps x.1.name x.1.seq sf)).length) || awaitB unm x.1.name) = true then set2 SS (ownOf ps x.1.origin) x.1.name (ins (SS (ownOf ps x.1.origin) x.1.name) (km x.1 x.2 sf)) else SS

/-- One envelope: what is relayed. -/
def stepG (ps : List Peer) (ids : List Int) (sf : Int) (G : List (Msg × List Int)) (x : Env × Msg) : List (Msg × List Int) :=
  if x.1.origin = sf then G
  else match ps.find? (fun p => p.id == x.1.origin) with
    | none => G
    | some p => if 0 < (nowF ps ids sf p (ids.filter (lackId ps x.1.name x.1.seq sf))).length then G ++ [(x.2, nowF ps ids sf p (ids.filter (lackId ps x.1.name x.1.seq sf)))] else G

end Go.Proofs.Ybulkdkqw.lawS5586AWhole
