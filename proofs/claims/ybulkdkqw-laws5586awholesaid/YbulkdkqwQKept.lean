import Derived.Test.YbulkdkqwQClaim
namespace Go.Proofs.Ybulkdkqw.lawS5586AWhole
open Go.ChangeShapes Go.WideShapes Go.ChangeAt Go.RowKit

/-- What lies in owner o's map of kept messages at a name. -/
def mapOf (F : Int → Value) (S : Int → List KM) (a : Int) : Option Value := if S a = [] then none else some (F a)

/-- ALL THAT IS KEPT: owner o's map lies in block KB o; at name a it holds SS o a in the slice FF o a, a row of its own. -/
structure KeptAll (w : World) (B no : Nat) (KB : Nat → Nat) (FF : Nat → Int → Value) (SS : Nat → Int → List KM) (NN : Nat → Nat) (m : Nat) : Prop where
  map : ∀ o, o < no → MapF w (KB o) (mapOf (FF o) (SS o)) (NN o)
  row : ∀ o a, o < no → SS o a ≠ [] → Sl EK 63 w B (FF o a) (SS o a)
  rise : ∀ o a, o < no → Rising (SS o a)
  apart : ∀ o a o' a', o < no → o' < no → SS o a ≠ [] → SS o' a' ≠ [] → (o ≠ o' ∨ a ≠ a') → (FF o a).ownBlock ≠ (FF o' a').ownBlock
  inj : ∀ o o', o < no → o' < no → KB o = KB o' → o = o'
  len : ∀ o a, o < no → (SS o a).length ≤ m
  num : ∀ o, o < no → NN o ≤ m
  base : ∀ o, o < no → KB 0 ≤ KB o
  high : ∀ o a g, o < no → SS o a ≠ [] → (FF o a).ownBlock = some g → KB 0 ≤ g

theorem map_not_row {w : World} {b : Nat} {F : Int → Option Value} {n B : Nat} {v : Value} {L : List KM} (h : MapF w b F n) (hs : Sl EK 63 w B v L) : v.ownBlock ≠ some b := by
  intro e
  obtain ⟨cur, hc⟩ := hs.typed e
  obtain ⟨D, ⟨es, clock, hb, _⟩, _⟩ := h
  rw [hb] at hc
  cases hc

theorem own_some {w : World} {B : Nat} {v : Value} {L : List KM} (hs : Sl EK 63 w B v L) (hn : L ≠ []) : ∃ g, v.ownBlock = some g := by
  obtain ⟨ao, cap, rfl, hop⟩ := hs.open
  obtain ⟨g, _, _, _, h, _⟩ := hop (by cases L with | nil => exact absurd rfl hn | cons _ _ => simp)
  exact ⟨g, h⟩

/-- A function turned at one place. -/
def set2 {β : Type} (f : Nat → Int → β) (o : Nat) (a : Int) (v : β) (o' : Nat) (a' : Int) : β := if o' = o ∧ a' = a then v else f o' a'

section
variable {w w' : World} {B no m : Nat} {KB : Nat → Nat} {FF : Nat → Int → Value} {SS : Nat → Int → List KM} {NN : Nat → Nat}

theorem KeptAll.later (h : KeptAll w B no KB FF SS NN m) (hb : Below w.heap.size w w') : KeptAll w' B no KB FF SS NN m :=
  { h with
    map := fun o ho => (h.map o ho).later hb
    row := fun o a ho hn => (h.row o a ho hn).later hb }

/-- What keep is handed at (o, a). -/
def curV (FF : Nat → Int → Value) (SS : Nat → Int → List KM) (o : Nat) (a : Int) : Value := (mapOf (FF o) (SS o) a).getD (.slice none 0 0)

theorem KeptAll.cur (h : KeptAll w B no KB FF SS NN m) {o : Nat} (ho : o < no) (a : Int) : Sl EK 63 w B (curV FF SS o a) (SS o a) := by
  unfold curV mapOf
  by_cases hn : SS o a = []
  · rw [if_pos hn, hn]; exact Sl.nil _ _
  · rw [if_neg hn]; exact h.row o a ho hn

theorem KeptAll.curHi (h : KeptAll w B no KB FF SS NN m) {o : Nat} (ho : o < no) (a : Int) {g : Nat} (hg : (curV FF SS o a).ownBlock = some g) : KB 0 ≤ g := by
  unfold curV mapOf at hg
  by_cases hn : SS o a = []
  · rw [if_pos hn] at hg; simp [Value.ownBlock] at hg
  · rw [if_neg hn] at hg; exact h.high o a g ho hn hg

/-- ONE MESSAGE KEPT: keep's answer v' stored at (o, a). -/
theorem KeptAll.step (h : KeptAll w B no KB FF SS NN m) {o : Nat} (ho : o < no) {a : Int} (ha : U a) {k : KM} {v' : Value} {w1 : World} (hm : m < 1000000)
    (hs : Sl EK 63 w1 B v' (ins (SS o a) k)) (hg : w.grownBy w1 (curV FF SS o a).ownBlock) (hl : Loc w (curV FF SS o a) v') :
    ∃ w2, (Instr.mapUpdate 34 (.map (some (KB o))) (.int .u64 a) v').run Yba.prog w1 = .ok () w2 ∧
      KeptAll w2 B no KB (set2 FF o a v') (set2 SS o a (ins (SS o a) k)) (fun o' => if o' = o then (if SS o a = [] then NN o + 1 else NN o) else NN o') (m + 1) ∧
      w1.grownBy w2 (some (KB o)) := by
  have hmap1 : ∀ o', o' < no → MapF w1 (KB o') (mapOf (FF o') (SS o')) (NN o') := fun o' ho' =>
    (h.map o' ho').of_block (hg.block _ (h.map o' ho').lt (fun e => map_not_row (h.map o' ho') (h.cur ho a) e.symm))
  obtain ⟨w2, hrun, hm2, hg2⟩ := (hmap1 o ho).store Yba.underlying34 (by unfold maxLen; have := h.num o ho; omega) ha v'
  refine ⟨w2, hrun, ?_, hg2⟩
  have hins := ins_ne_nil (SS o a) k
  -- v' lies in a row that is none of the maps
  have hs2 : Sl EK 63 w2 B v' (ins (SS o a) k) := hs.of_block (fun g hgo => hg2.block g (hs.lt hgo).2 (fun e => by
    injection e with e
    subst e
    exact map_not_row (hmap1 o ho) hs hgo))
  have hrow : ∀ o' a', o' < no → SS o' a' ≠ [] → (o' ≠ o ∨ a' ≠ a) → Sl EK 63 w2 B (FF o' a') (SS o' a') ∧ (FF o' a').ownBlock ≠ v'.ownBlock := by
    intro o' a' ho' hn' hne
    have hr := h.row o' a' ho' hn'
    obtain ⟨g, hgo⟩ := own_some hr hn'
    have hd : (FF o' a').ownBlock ≠ (curV FF SS o a).ownBlock := by
      unfold curV mapOf
      by_cases hc : SS o a = []
      · rw [if_pos hc, hgo]; simp [Value.ownBlock]
      · rw [if_neg hc]; exact h.apart o' a' o a ho' ho hn' hc hne
    have h1 : Sl EK 63 w1 B (FF o' a') (SS o' a') := hr.of_block (fun g' hg' => hg.block g' (hr.lt hg').2 (fun e => hd (hg'.trans e)))
    refine ⟨h1.of_block (fun g' hg' => hg2.block g' (h1.lt hg').2 (fun e => by
      injection e with e
      subst e
      exact map_not_row (hmap1 o ho) h1 hg')), ?_⟩
    rcases hl with e | ⟨gn, e, hge⟩
    · rw [e]; exact hd
    · rw [e, hgo]
      intro e2
      injection e2 with e2
      have := (hr.lt hgo).2
      omega
  have hmo : mapOf (set2 FF o a v' o) (set2 SS o a (ins (SS o a) k) o) = upd (mapOf (FF o) (SS o)) a (some v') := by
    funext x
    unfold mapOf upd set2
    by_cases hx : x = a
    · subst hx; simp [hins]
    · simp [hx]
  constructor
  · intro o' ho'
    by_cases e : o' = o
    · subst e
      rw [hmo]
      simp only [if_true]
      have hc : (mapOf (FF o') (SS o') a).isSome = !decide (SS o' a = []) := by unfold mapOf; by_cases hc : SS o' a = [] <;> simp [hc]
      rw [hc] at hm2
      by_cases hcc : SS o' a = []
      · simpa [hcc] using hm2
      · simpa [hcc] using hm2
    · have e1 : mapOf (set2 FF o a v' o') (set2 SS o a (ins (SS o a) k) o') = mapOf (FF o') (SS o') := by
        funext x; unfold mapOf set2; simp [e]
      rw [e1]
      simp only [if_neg e]
      exact (hmap1 o' ho').of_block (hg2.block _ (hmap1 o' ho').lt (fun e2 => e (h.inj o' o ho' ho (by injection e2))))
  · intro o' a' ho' hn'
    unfold set2 at hn' ⊢
    by_cases e : o' = o ∧ a' = a
    · obtain ⟨rfl, rfl⟩ := e
      simpa using hs2
    · rw [if_neg e] at hn' ⊢
      rw [if_neg e]
      exact (hrow o' a' ho' hn' (by by_cases h1 : o' = o <;> simp_all)).1
  · intro o' a' ho'
    unfold set2
    by_cases e : o' = o ∧ a' = a
    · rw [if_pos e]; exact ins_rising _ _ (h.rise o a ho)
    · rw [if_neg e]; exact h.rise o' a' ho'
  · intro o1 a1 o2 a2 h1 h2 hn1 hn2 hne
    unfold set2 at hn1 hn2 ⊢
    by_cases e1 : o1 = o ∧ a1 = a
    · by_cases e2 : o2 = o ∧ a2 = a
      · exfalso
        rcases hne with h | h
        · exact h (e1.1.trans e2.1.symm)
        · exact h (e1.2.trans e2.2.symm)
      · rw [if_neg e2] at hn2
        rw [if_pos e1, if_neg e2]
        exact fun e => (hrow o2 a2 h2 hn2 (by by_cases h1 : o2 = o <;> simp_all)).2 e.symm
    · rw [if_neg e1] at hn1
      rw [if_neg e1]
      by_cases e2 : o2 = o ∧ a2 = a
      · rw [if_pos e2]
        exact (hrow o1 a1 h1 hn1 (by by_cases h1 : o1 = o <;> simp_all)).2
      · rw [if_neg e2] at hn2 ⊢
        exact h.apart o1 a1 o2 a2 h1 h2 hn1 hn2 hne
  · exact h.inj
  · intro o' a' ho'
    unfold set2
    by_cases e : o' = o ∧ a' = a
    · rw [if_pos e]
      have := ins_len (SS o a) k
      have := h.len o a ho
      omega
    · rw [if_neg e]
      have := h.len o' a' ho'
      omega
  · intro o' ho'
    have h1 := h.num o' ho'
    have h2 := h.num o ho
    split
    · split <;> omega
    · omega
  · exact h.base
  · intro o' a' g ho' hn' hg'
    unfold set2 at hn' hg'
    by_cases e : o' = o ∧ a' = a
    · rw [if_pos e] at hg'
      rcases hl with e1 | ⟨gn, e1, hge⟩
      · exact h.curHi ho a (e1.symm.trans hg')
      · rw [e1] at hg'
        injection hg' with hg'
        have := (h.map 0 (by omega)).lt
        omega
    · rw [if_neg e] at hn' hg'
      exact h.high o' a' g ho' hn' hg'

/-- OF WHAT WAS THERE, only rows of kept messages and the owners' maps may have turned. -/
structure KOnly (no : Nat) (KB : Nat → Nat) (w w' : World) : Prop where
  os : w'.os = w.os
  tape : w'.tape = w.tape
  output : w'.output = w.output
  size : w.heap.size ≤ w'.heap.size
  block : ∀ b, b < w.heap.size → (∀ cur, w.heap[b]? ≠ some (.cells cur 63 (0, 0))) → (∀ o, o < no → b ≠ KB o) → w'.heap[b]? = w.heap[b]?
  low : ∀ b, b < w.heap.size → b < KB 0 → w'.heap[b]? = w.heap[b]?

theorem KOnly.refl (w : World) : KOnly no KB w w := ⟨rfl, rfl, rfl, Nat.le_refl _, fun _ _ _ _ => rfl, fun _ _ _ => rfl⟩
theorem KOnly.trans {a b c : World} (h : KOnly no KB a b) (k : KOnly no KB b c) : KOnly no KB a c :=
  ⟨k.os.trans h.os, k.tape.trans h.tape, k.output.trans h.output, Nat.le_trans h.size k.size, fun i hi h1 h2 => by
    have e := h.block i hi h1 h2
    exact (k.block i (Nat.lt_of_lt_of_le hi h.size) (fun cur => by rw [e]; exact h1 cur) h2).trans e, fun i hi h0 => (k.low i (Nat.lt_of_lt_of_le hi h.size) h0).trans (h.low i hi h0)⟩
theorem KOnly.of_below (h : Below w.heap.size w w') : KOnly no KB w w' := ⟨h.os, h.tape, h.output, h.size, fun b hb _ _ => h.block b hb, fun b hb _ => h.block b hb⟩
theorem KOnly.of_row {r : Option Nat} (h : w.grownBy w' r) (hr : ∀ g, r = some g → ∃ cur, w.heap[g]? = some (.cells cur 63 (0, 0))) (hlo : ∀ g, r = some g → KB 0 ≤ g) : KOnly no KB w w' :=
  ⟨h.os, h.tape, h.output, h.size, fun b hb h1 _ => h.block b hb (fun e => by
    obtain ⟨cur, hc⟩ := hr b e.symm
    exact h1 cur hc), fun b hb h0 => h.block b hb (fun e => by have := hlo b e.symm; omega)⟩
theorem KOnly.of_map {o : Nat} (ho : o < no) (hba : KB 0 ≤ KB o) (h : w.grownBy w' (some (KB o))) : KOnly no KB w w' :=
  ⟨h.os, h.tape, h.output, h.size, fun b hb _ h2 => h.block b hb (fun e => h2 o ho (by injection e)), fun b hb h0 => h.block b hb (fun e => by injection e with e; omega)⟩
theorem KOnly.cell (h : KOnly no KB w w') {p : Addr} (hp : p.block < w.heap.size) (h1 : ∀ cur, w.heap[p.block]? ≠ some (.cells cur 63 (0, 0))) (h2 : ∀ o, o < no → p.block ≠ KB o) : w'.cell? p = w.cell? p := World.cell?_of_block (w := w) (h.block _ hp h1 h2)

/-- The router's blocks are none of the kept ones. -/
structure Sep (w : World) (Rb pm um nm : Nat) (ps : List Peer) (no : Nat) (KB : Nat → Nat) : Prop where
  tR : ∃ cur, w.heap[Rb]? = some (.cells cur 39 (0, 0))
  tP : ∀ p ∈ ps, ∃ cur, w.heap[p.blk]? = some (.cells cur 37 (0, 0))
  tK : ∀ o, o < no → ∃ es c, w.heap[KB o]? = some (.map es c)
  nk : ∀ o, o < no → KB o ≠ pm ∧ KB o ≠ um ∧ KB o ≠ nm ∧ ∀ p ∈ ps, KB o ≠ p.hb ∧ KB o ≠ p.jb

variable {Rb : Nat} {sf : Int} {vids : Value} {ids : List Int} {pm um nm mk : Nat} {ps : List Peer} {unm : List Int} {ucnt : Nat}

theorem cells_ne {w : World} {b : Nat} {c : Array Value} {t : TypeId} (h : w.heap[b]? = some (.cells c t (0, 0))) (ht : t ≠ 63) : ∀ cur, w.heap[b]? ≠ some (.cells cur 63 (0, 0)) := fun cur e => by
  rw [h] at e
  injection e with e
  injection e with _ e
  exact ht e
theorem mapF_ne {w : World} {b n : Nat} {F : Int → Option Value} (h : MapF w b F n) : ∀ cur, w.heap[b]? ≠ some (.cells cur 63 (0, 0)) := fun cur e => by
  obtain ⟨D, ⟨es, clock, hb, _⟩, _⟩ := h
  rw [hb] at e
  cases e

theorem Sep.ne (h : Sep w Rb pm um nm ps no KB) {b : Nat} {c : Array Value} {t : TypeId} (hb : w.heap[b]? = some (.cells c t (0, 0))) : ∀ o, o < no → b ≠ KB o := fun o ho e => by
  obtain ⟨es, cl, hk⟩ := h.tK o ho
  rw [← e, hb] at hk
  cases hk

theorem Rt.konly (h : Rt w B Rb sf vids ids pm um nm mk ps unm ucnt) (hs : Sep w Rb pm um nm ps no KB) (hk : KOnly no KB w w') : Rt w' B Rb sf vids ids pm um nm mk ps unm ucnt := by
  obtain ⟨cR, hR⟩ := hs.tR
  have lR : Rb < w.heap.size := World.block_lt_of_cell? w _ h.c0
  have eR := hk.block Rb lR (cells_ne hR (by decide)) (hs.ne hR)
  have hc : ∀ j, w'.cell? ⟨Rb, j, none⟩ = w.cell? ⟨Rb, j, none⟩ := fun j => World.cell?_of_block (w := w) eR
  have hm : ∀ {b n : Nat} {F : Int → Option Value}, MapF w b F n → (∀ o, o < no → KB o ≠ b) → MapF w' b F n := fun hm hn => hm.of_block (hk.block _ hm.lt (mapF_ne hm) (fun o ho e => hn o ho e.symm))
  refine ⟨(hc 0).trans h.c0, ?_, (hc 1).trans h.c1, (hc 2).trans h.c2, (hc 3).trans h.c3, (hc 4).trans h.c4, (hc 13).trans h.c13, hm h.pmap (fun o ho => (hs.nk o ho).1), hm h.umap (fun o ho => (hs.nk o ho).2.1), hm h.nmap (fun o ho => (hs.nk o ho).2.2.1), fun p hp => ?_, h.uids, h.usf⟩
  · refine h.hids.of_block (fun g hg => ?_)
    obtain ⟨cur, hcur⟩ := h.hids.typed hg
    exact hk.block g (h.hids.lt hg).2 (cells_ne hcur (by decide)) (hs.ne hcur)
  · obtain ⟨cP, hP⟩ := hs.tP p hp
    have hp0 := h.peers p hp
    have lp : p.blk < w.heap.size := World.block_lt_of_cell? w _ hp0.c0
    have eP := hk.block p.blk lp (cells_ne hP (by decide)) (hs.ne hP)
    have hcp : ∀ j, w'.cell? ⟨p.blk, j, none⟩ = w.cell? ⟨p.blk, j, none⟩ := fun j => World.cell?_of_block (w := w) eP
    exact ⟨(hcp 0).trans hp0.c0, (hcp 1).trans hp0.c1, (hcp 4).trans hp0.c4, (hcp 5).trans hp0.c5, (hcp 7).trans hp0.c7, (hcp 8).trans hp0.c8, (hcp 9).trans hp0.c9, (hcp 10).trans hp0.c10, hm hp0.has (fun o ho => ((hs.nk o ho).2.2.2 p hp).1), hm hp0.joined (fun o ho => ((hs.nk o ho).2.2.2 p hp).2), hp0.st0, hp0.st2⟩

theorem Sep.konly (hs : Sep w Rb pm um nm ps no KB) (hk : KOnly no KB w w') (hmap : ∀ o, o < no → ∃ es c, w'.heap[KB o]? = some (.map es c)) : Sep w' Rb pm um nm ps no KB := by
  obtain ⟨cR, hR⟩ := hs.tR
  have eR := hk.block Rb (Array.getElem?_eq_some_iff.1 hR).1 (cells_ne hR (by decide)) (hs.ne hR)
  refine ⟨⟨cR, eR.trans hR⟩, fun p hp => ?_, hmap, hs.nk⟩
  obtain ⟨cP, hP⟩ := hs.tP p hp
  exact ⟨cP, (hk.block p.blk (Array.getElem?_eq_some_iff.1 hP).1 (cells_ne hP (by decide)) (hs.ne hP)).trans hP⟩

theorem KeptAll.maps (h : KeptAll w B no KB FF SS NN m) : ∀ o, o < no → ∃ es c, w.heap[KB o]? = some (.map es c) := fun o ho => by
  obtain ⟨D, ⟨es, clock, hb, _⟩, _⟩ := h.map o ho
  exact ⟨es, clock, hb⟩
end
end Go.Proofs.Ybulkdkqw.lawS5586AWhole
