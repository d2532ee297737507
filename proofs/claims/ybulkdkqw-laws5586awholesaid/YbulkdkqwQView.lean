import Derived.Test.YbulkdkqwQArr2
import Derived.Lib.SliceRun
namespace Go.Proofs.Ybulkdkqw.lawS5586AWhole
open Go.ChangeShapes Go.WideShapes Go.ChangeAt Go.RowKit

/-- A slice of kept messages, from some cell of a row on. -/
def Rd (w : World) (v : Value) (L : List KM) : Prop :=
  ∃ g off cap cur, v = .slice (some ⟨g, off, none⟩) L.length cap ∧ w.heap[g]? = some (.cells cur 63 (0, 0)) ∧ L.length ≤ cap ∧
    ∀ (i : Nat) (x : KM), L[i]? = some x → ∀ (j : Nat) (u : Value), (EK.cs x)[j]? = some u → w.cell? ⟨g, off + (i * 3 + j), none⟩ = some u

theorem Rd.of_sl {w : World} {B : Nat} {v : Value} {L : List KM} (h : Sl EK 63 w B v L) (hn : L ≠ []) : Rd w v L := by
  obtain ⟨ao, cap, rfl, hop⟩ := h.open
  obtain ⟨g, rfl, _, _, hob, _, hcell⟩ := hop (by cases L with | nil => exact absurd rfl hn | cons _ _ => simp)
  obtain ⟨cur, hcur⟩ := h.typed hob
  have hc : L.length ≤ cap := by
    rcases h.2 with ⟨h1, _⟩ | ⟨g', cap', cur', h1, _, _, h2, _⟩
    · cases h1
    · cases h1; exact h2
  exact ⟨g, 0, cap, cur, rfl, hcur, hc, fun i x hx j u hu => by have := hcell i x hx j u hu; simpa [EK] using this⟩
theorem Rd.own {w : World} {v : Value} {L : List KM} (h : Rd w v L) : ∃ g, v.ownBlock = some g ∧ g < w.heap.size ∧ ∃ cur, w.heap[g]? = some (.cells cur 63 (0, 0)) := by
  obtain ⟨g, off, cap, cur, rfl, hb, _⟩ := h
  exact ⟨g, rfl, (Array.getElem?_eq_some_iff.1 hb).1, cur, hb⟩
theorem Rd.lt {w : World} {v : Value} {L : List KM} (h : Rd w v L) {g : Nat} (hg : v.ownBlock = some g) : g < w.heap.size := by
  obtain ⟨g', hg', hl, _⟩ := h.own
  have e : some g' = some g := hg'.symm.trans hg
  injection e with e
  omega
theorem Rd.of_block {w w' : World} {v : Value} {L : List KM} (h : Rd w v L) (e : ∀ g, v.ownBlock = some g → w'.heap[g]? = w.heap[g]?) : Rd w' v L := by
  obtain ⟨g, off, cap, cur, rfl, hb, hc, h⟩ := h
  have e := e g rfl
  exact ⟨g, off, cap, cur, rfl, e.trans hb, hc, fun i x hx j u hu => (World.cell?_of_block (w := w) (a := ⟨g, _, none⟩) e).trans (h i x hx j u hu)⟩
theorem map_not_rd {w : World} {b : Nat} {F : Int → Option Value} {n : Nat} {v : Value} {L : List KM} (h : MapF w b F n) (hs : Rd w v L) : v.ownBlock ≠ some b := by
  intro e
  obtain ⟨g, hg, _, cur, hc⟩ := hs.own
  rw [hg] at e
  injection e with e
  subst e
  exact mapF_ne h cur hc

/-- What is kept, as it is read. -/
structure KV (w : World) (no : Nat) (KB : Nat → Nat) (FF : Nat → Int → Value) (SS : Nat → Int → List KM) (NN : Nat → Nat) (m : Nat) : Prop where
  map : ∀ o, o < no → MapF w (KB o) (mapOf (FF o) (SS o)) (NN o)
  row : ∀ o a, o < no → SS o a ≠ [] → Rd w (FF o a) (SS o a)
  rise : ∀ o a, o < no → Rising (SS o a)
  apart : ∀ o a o' a', o < no → o' < no → SS o a ≠ [] → SS o' a' ≠ [] → (o ≠ o' ∨ a ≠ a') → (FF o a).ownBlock ≠ (FF o' a').ownBlock
  inj : ∀ o o', o < no → o' < no → KB o = KB o' → o = o'
  len : ∀ o a, o < no → (SS o a).length ≤ m
  num : ∀ o, o < no → NN o ≤ m
  base : ∀ o, o < no → KB 0 ≤ KB o
  high : ∀ o a g, o < no → SS o a ≠ [] → (FF o a).ownBlock = some g → KB 0 ≤ g

section
variable {w w' : World} {B no m : Nat} {KB : Nat → Nat} {FF : Nat → Int → Value} {SS : Nat → Int → List KM} {NN : Nat → Nat}

theorem KeptAll.view (h : KeptAll w B no KB FF SS NN m) : KV w no KB FF SS NN m :=
  ⟨h.map, fun o a ho hn => Rd.of_sl (h.row o a ho hn) hn, h.rise, h.apart, h.inj, h.len, h.num, h.base, h.high⟩
theorem KV.later (h : KV w no KB FF SS NN m) (hb : Below w.heap.size w w') : KV w' no KB FF SS NN m :=
  { h with
    map := fun o ho => (h.map o ho).later hb
    row := fun o a ho hn => (h.row o a ho hn).of_block (fun g hg => by
      obtain ⟨g', hg', hl, _⟩ := (h.row o a ho hn).own
      rw [hg'] at hg; injection hg with hg; subst hg
      exact hb.block _ hl) }
theorem KV.maps (h : KV w no KB FF SS NN m) : ∀ o, o < no → ∃ es c, w.heap[KB o]? = some (.map es c) := fun o ho => by
  obtain ⟨D, ⟨es, clock, hb, _⟩, _⟩ := h.map o ho
  exact ⟨es, clock, hb⟩

/-- The row of (o, a) turned: the maps and the other rows stand. -/
theorem KV.turned (h : KV w no KB FF SS NN m) {o : Nat} (ho : o < no) {a : Int} (hn : SS o a ≠ []) {w1 : World} (hg : w.grownBy w1 (FF o a).ownBlock) :
    (∀ o', o' < no → MapF w1 (KB o') (mapOf (FF o') (SS o')) (NN o')) ∧ (∀ o' a', o' < no → SS o' a' ≠ [] → (o' ≠ o ∨ a' ≠ a) → Rd w1 (FF o' a') (SS o' a')) := by
  refine ⟨fun o' ho' => (h.map o' ho').of_block (hg.block _ (h.map o' ho').lt (fun e => map_not_rd (h.map o' ho') (h.row o a ho hn) e.symm)), fun o' a' ho' hn' hne => ?_⟩
  refine (h.row o' a' ho' hn').of_block (fun g hgo => ?_)
  obtain ⟨g', hg', hl, _⟩ := (h.row o' a' ho' hn').own
  rw [hg'] at hgo; injection hgo with hgo; subst hgo
  exact hg.block _ hl (fun e => h.apart o' a' o a ho' ho hn' hn hne (hg'.trans e))

/-- Some of the messages at (o, a) let go. -/
theorem KV.keep (h : KV w no KB FF SS NN m) {o : Nat} (ho : o < no) {a : Int} (ha : U a) (hm : m < 1000000) (hn : SS o a ≠ []) {w1 : World} (hg : w.grownBy w1 (FF o a).ownBlock)
    {v : Value} {left : List KM} (hl : left ≠ []) (hr : Rising left) (hlen : left.length ≤ m) (hv : v.ownBlock = (FF o a).ownBlock) (hrd : Rd w1 v left) :
    ∃ w2, (Instr.mapUpdate 34 (.map (some (KB o))) (.int .u64 a) v).run Yba.prog w1 = .ok () w2 ∧ KV w2 no KB (set2 FF o a v) (set2 SS o a left) NN m ∧ w1.grownBy w2 (some (KB o)) := by
  obtain ⟨hmap, hrow⟩ := h.turned ho hn hg
  obtain ⟨w2, hrun, hm2, hg2⟩ := (hmap o ho).store Yba.underlying34 (by unfold maxLen; have := h.num o ho; omega) ha v
  refine ⟨w2, hrun, ?_, hg2⟩
  have hst : ∀ {v' : Value} {L : List KM}, Rd w1 v' L → Rd w2 v' L := fun {_ _} hr => hr.of_block (fun g hgo => hg2.block g (hr.lt hgo) (fun e => map_not_rd (hmap o ho) hr (hgo.trans e)))
  have hmo : mapOf (set2 FF o a v o) (set2 SS o a left o) = upd (mapOf (FF o) (SS o)) a (some v) := by
    funext x
    unfold mapOf upd set2
    by_cases hx : x = a
    · subst hx; simp [hl]
    · simp [hx]
  constructor
  · intro o' ho'
    by_cases e : o' = o
    · subst e
      rw [hmo]
      have hc : (mapOf (FF o') (SS o') a).isSome = true := by unfold mapOf; simp [hn]
      rw [hc] at hm2
      simpa using hm2
    · have e1 : mapOf (set2 FF o a v o') (set2 SS o a left o') = mapOf (FF o') (SS o') := by
        funext x; unfold mapOf set2; simp [e]
      rw [e1]
      exact (hmap o' ho').of_block (hg2.block _ (hmap o' ho').lt (fun e2 => e (h.inj o' o ho' ho (by injection e2))))
  · intro o' a' ho' hn'
    unfold set2 at hn' ⊢
    by_cases e : o' = o ∧ a' = a
    · obtain ⟨rfl, rfl⟩ := e
      simpa using hst hrd
    · rw [if_neg e] at hn' ⊢
      rw [if_neg e]
      exact hst (hrow o' a' ho' hn' (by by_cases h1 : o' = o <;> simp_all))
  · intro o' a' ho'
    unfold set2
    by_cases e : o' = o ∧ a' = a
    · rw [if_pos e]; exact hr
    · rw [if_neg e]; exact h.rise o' a' ho'
  · intro o1 a1 o2 a2 h1 h2 hn1 hn2 hne
    unfold set2 at hn1 hn2 ⊢
    by_cases e1 : o1 = o ∧ a1 = a
    · by_cases e2 : o2 = o ∧ a2 = a
      · exfalso
        rcases hne with h | h
        · exact h (e1.1.trans e2.1.symm)
        · exact h (e1.2.trans e2.2.symm)
      · rw [if_neg e2] at hn2
        rw [if_pos e1, if_neg e2, hv]
        exact h.apart o a o2 a2 ho h2 hn hn2 (by rcases hne with h | h <;> simp_all)
    · rw [if_neg e1] at hn1
      rw [if_neg e1]
      by_cases e2 : o2 = o ∧ a2 = a
      · rw [if_pos e2, hv]
        exact h.apart o1 a1 o a h1 ho hn1 hn (by rcases hne with h | h <;> simp_all)
      · rw [if_neg e2] at hn2 ⊢
        exact h.apart o1 a1 o2 a2 h1 h2 hn1 hn2 hne
  · exact h.inj
  · intro o' a' ho'
    unfold set2
    by_cases e : o' = o ∧ a' = a
    · rw [if_pos e]; exact hlen
    · rw [if_neg e]; exact h.len o' a' ho'
  · exact h.num
  · exact h.base
  · intro o' a' g ho' hn' hg'
    unfold set2 at hn' hg'
    by_cases e : o' = o ∧ a' = a
    · rw [if_pos e, hv] at hg'
      exact h.high o a g ho hn hg'
    · rw [if_neg e] at hn' hg'
      exact h.high o' a' g ho' hn' hg'

/-- All of the messages at (o, a) let go. -/
theorem KV.drop (h : KV w no KB FF SS NN m) {o : Nat} (ho : o < no) {a : Int} (ha : U a) (hn : SS o a ≠ []) {w1 : World} (hg : w.grownBy w1 (FF o a).ownBlock) (ty : TypeId) :
    ∃ w2, (Builtin.delete_ #[34, 22] ty #[.map (some (KB o)), .int .u64 a]).run Yba.prog w1 = .ok (.tuple #[]) w2 ∧ KV w2 no KB FF (set2 SS o a []) (fun o' => if o' = o then NN o - 1 else NN o') m ∧ w1.grownBy w2 (some (KB o)) := by
  obtain ⟨hmap, hrow⟩ := h.turned ho hn hg
  obtain ⟨w2, hrun, hm2, hg2⟩ := (hmap o ho).drop Yba.underlying34 ha ty
  refine ⟨w2, hrun, ?_, hg2⟩
  have hst : ∀ {v' : Value} {L : List KM}, Rd w1 v' L → Rd w2 v' L := fun {_ _} hr => hr.of_block (fun g hgo => hg2.block g (hr.lt hgo) (fun e => map_not_rd (hmap o ho) hr (hgo.trans e)))
  have hmo : mapOf (FF o) (set2 SS o a [] o) = upd (mapOf (FF o) (SS o)) a none := by
    funext x
    unfold mapOf upd set2
    by_cases hx : x = a
    · subst hx; simp
    · simp [hx]
  constructor
  · intro o' ho'
    by_cases e : o' = o
    · subst e
      rw [hmo]
      have hc : (mapOf (FF o') (SS o') a).isSome = true := by unfold mapOf; simp [hn]
      rw [hc] at hm2
      simpa using hm2
    · have e1 : mapOf (FF o') (set2 SS o a [] o') = mapOf (FF o') (SS o') := by
        funext x; unfold mapOf set2; simp [e]
      rw [e1]
      simp only [if_neg e]
      exact (hmap o' ho').of_block (hg2.block _ (hmap o' ho').lt (fun e2 => e (h.inj o' o ho' ho (by injection e2))))
  · intro o' a' ho' hn'
    unfold set2 at hn' ⊢
    by_cases e : o' = o ∧ a' = a
    · rw [if_pos e] at hn'; exact absurd rfl hn'
    · rw [if_neg e] at hn' ⊢
      exact hst (hrow o' a' ho' hn' (by by_cases h1 : o' = o <;> simp_all))
  · intro o' a' ho'
    unfold set2
    by_cases e : o' = o ∧ a' = a
    · rw [if_pos e]; exact List.Pairwise.nil
    · rw [if_neg e]; exact h.rise o' a' ho'
  · intro o1 a1 o2 a2 h1 h2 hn1 hn2 hne
    unfold set2 at hn1 hn2
    by_cases e1 : o1 = o ∧ a1 = a
    · rw [if_pos e1] at hn1; exact absurd rfl hn1
    · by_cases e2 : o2 = o ∧ a2 = a
      · rw [if_pos e2] at hn2; exact absurd rfl hn2
      · rw [if_neg e1] at hn1
        rw [if_neg e2] at hn2
        exact h.apart o1 a1 o2 a2 h1 h2 hn1 hn2 hne
  · exact h.inj
  · intro o' a' ho'
    unfold set2
    by_cases e : o' = o ∧ a' = a
    · rw [if_pos e]; exact Nat.zero_le _
    · rw [if_neg e]; exact h.len o' a' ho'
  · intro o' ho'
    have h1 := h.num o' ho'
    have h2 := h.num o ho
    show (if o' = o then NN o - 1 else NN o') ≤ m
    split <;> omega
  · exact h.base
  · intro o' a' g ho' hn' hg'
    unfold set2 at hn'
    by_cases e : o' = o ∧ a' = a
    · rw [if_pos e] at hn'; exact absurd rfl hn'
    · rw [if_neg e] at hn'
      exact h.high o' a' g ho' hn' hg'
end

/-! clear -/
theorem setCells_block {b k : Nat} (hk : k ≠ b) : ∀ (vs : List Value) (o : Nat) (w : World), (w.setCells b o vs).heap[k]? = w.heap[k]?
  | [], _, _ => rfl
  | v :: r, o, w => by rw [World.setCells, setCells_block hk r]; exact Deep.blk_setCell_other _ _ _ _ hk
theorem setCells_size {b : Nat} : ∀ (vs : List Value) (o : Nat) (w : World), (w.setCells b o vs).heap.size = w.heap.size
  | [], _, _ => rfl
  | v :: r, o, w => by rw [World.setCells, setCells_size r]; simp
theorem setCells_rest {b : Nat} : ∀ (vs : List Value) (o : Nat) (w : World), (w.setCells b o vs).os = w.os ∧ (w.setCells b o vs).tape = w.tape ∧ (w.setCells b o vs).output = w.output
  | [], _, _ => ⟨rfl, rfl, rfl⟩
  | v :: r, o, w => by rw [World.setCells]; exact setCells_rest r (o + 1) (w.setCell ⟨b, o, none⟩ v)
theorem setCells_cells {b : Nat} {t : TypeId} : ∀ (vs : List Value) (o : Nat) (w : World) (cur : Array Value), w.heap[b]? = some (.cells cur t (0, 0)) → ∃ cur', (w.setCells b o vs).heap[b]? = some (.cells cur' t (0, 0))
  | [], _, _, cur, h => ⟨cur, h⟩
  | v :: r, o, w, cur, h => by
    rw [World.setCells]
    refine setCells_cells r (o + 1) (w.setCell ⟨b, o, none⟩ v) (cur.set! o v) ?_
    obtain ⟨hlt, hgg⟩ := Array.getElem?_eq_some_iff.1 h
    simp only [World.setCell]
    simp [hlt, Array.getElem_modify, hgg]
theorem grown_setCells {w : World} {g o : Nat} (vs : List Value) : w.grownBy (w.setCells g o vs) (some g) :=
  ⟨(setCells_rest vs o w).1, (setCells_rest vs o w).2.1, (setCells_rest vs o w).2.2, by rw [setCells_size]; exact Nat.le_refl _, fun k _ hk => setCells_block (fun e => hk (by rw [e])) vs o w⟩

theorem zero63 (w : World) : (zeroValue 63).run Yba.prog w = .ok (.agg #[.int .u64 0, .slice none 0 0, .int .u64 0]) w := by kernel_rfl

/-- clear of the first n messages of a row. -/
theorem run_clear63 (w : World) (g off n cap : Nat) (ty : TypeId) (cur : Array Value) (hb : w.heap[g]? = some (.cells cur 63 (0, 0))) (hc : ∀ j, j < n * 3 → (w.cell? ⟨g, off + j, none⟩).isSome = true) :
    ∃ w1, (Builtin.clear_ #[68] ty #[.slice (some ⟨g, off, none⟩) n cap]).run Yba.prog w = .ok (.tuple #[]) w1 ∧ w.grownBy w1 (some g) ∧ (∃ cur', w1.heap[g]? = some (.cells cur' 63 (0, 0))) ∧ ∀ i, off + n * 3 ≤ i → w1.cell? ⟨g, i, none⟩ = w.cell? ⟨g, i, none⟩ := by
  by_cases hn : n = 0
  · subst hn
    exact ⟨w, by simp [Builtin.clear_, run_underlying Yba.underlying68], ⟨rfl, rfl, rfl, Nat.le_refl _, fun _ _ _ => rfl⟩, ⟨cur, hb⟩, fun _ _ => rfl⟩
  · obtain ⟨zs, hzs⟩ : ∃ zs, (Builtin.zeroCells (Value.agg #[.int .u64 0, .slice none 0 0, .int .u64 0]).cells n).toList = zs := ⟨_, rfl⟩
    have hl : zs.length = n * 3 := by rw [← hzs]; simp [Builtin.zeroCells, Value.cells]
    have h1 : ∀ v ∈ zs, v.oneCell' = true := by
      intro v hv
      rw [← hzs] at hv
      simp [Builtin.zeroCells, Value.cells] at hv
      obtain ⟨i, hi, rfl⟩ := hv
      have h3 : i % 3 < 3 := Nat.mod_lt _ (by decide)
      rcases (show i % 3 = 0 ∨ i % 3 = 1 ∨ i % 3 = 2 by omega) with e | e | e <;> rw [e] <;> rfl
    have hst := run_storeCells_cells (P := Yba.prog) g off zs 0 w (fun j hj => by simpa using hc j (by omega)) (fun j _ => by simp [World.frozen?, hb]) h1
    simp only [Nat.add_zero] at hst
    refine ⟨w.setCells g off zs, ?_, grown_setCells zs, setCells_cells zs off w cur hb, fun i hi => World.cell?_setCells_out g zs off w ⟨g, i, none⟩ (fun _ _ => by simp only; omega)⟩
    obtain ⟨m, rfl⟩ : ∃ m, n = m + 1 := ⟨n - 1, by omega⟩
    simp [Builtin.clear_, run_underlying Yba.underlying68, hzs, hst]

/-- The messages above a floor. -/
theorem drop_above {L : List KM} {f : Int} {i : Nat} (hlo : ∀ k x, k < i → L[k]? = some x → ¬ f < x.seq) (hhi : ∀ k x, i ≤ k → L[k]? = some x → f < x.seq) : L.filter (fun x => decide (f < x.seq)) = L.drop i := by
  conv => lhs; rw [← List.take_append_drop i L]
  rw [List.filter_append]
  have h1 : (L.take i).filter (fun x => decide (f < x.seq)) = [] := by
    rw [List.filter_eq_nil_iff]
    intro x hx
    obtain ⟨k, hk⟩ := List.getElem?_of_mem hx
    rw [List.getElem?_take] at hk
    split at hk
    · have := hlo k x (by assumption) hk
      simpa using this
    · cases hk
  have h2 : (L.drop i).filter (fun x => decide (f < x.seq)) = L.drop i := by
    rw [List.filter_eq_self]
    intro x hx
    obtain ⟨k, hk⟩ := List.getElem?_of_mem hx
    rw [List.getElem?_drop] at hk
    simpa using hhi (i + k) x (by omega) hk
  rw [h1, h2, List.nil_append]
end Go.Proofs.Ybulkdkqw.lawS5586AWhole
