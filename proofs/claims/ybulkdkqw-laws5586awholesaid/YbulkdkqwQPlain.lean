import Derived.Test.YbulkdkqwQRel2
import Derived.Test.YbulkdkqwQCarA
namespace Go.Proofs.Ybulkdkqw.lawS5586AWhole
open Go.ChangeShapes Go.WideShapes Go.ChangeAt Go.RowKit

section
variable {T : TT} {SS : Nat → Int → List KM} {no : Nat}

theorem Rel.at {j : Nat} {t : Int × Int × List KM} (h : Rel T SS no) (hj : T[j]? = some t) : ∃ o, o < no ∧ t.1 = ownI o ∧ SS o t.2.1 = t.2.2 ∧ U t.2.1 := h.look t (List.mem_of_getElem? hj)

theorem Rel.inj {i j : Nat} {t t' : Int × Int × List KM} (h : Rel T SS no) (hi : T[i]? = some t) (hj : T[j]? = some t') (h1 : t.1 = t'.1) (h2 : t.2.1 = t'.2.1) : i = j := by
  have hil := (List.getElem?_eq_some_iff.1 hi).1
  have hjl := (List.getElem?_eq_some_iff.1 hj).1
  have e : (T.map (fun t => (t.1, t.2.1)))[i]? = (T.map (fun t => (t.1, t.2.1)))[j]? := by
    rw [List.getElem?_map, List.getElem?_map, hi, hj]
    simp [h1, h2]
  exact (List.getElem?_inj (by simpa using hil) h.nd).1 e

/-- One entry turned. -/
theorem Rel.turn {j o : Nat} {a : Int} {L : List KM} (h : Rel T SS no) (hj : T[j]? = some (ownI o, a, L)) (ho : o < no) (f : List KM → List KM) :
    Rel (T.modify j (fun t => (t.1, t.2.1, f t.2.2))) (set2 SS o a (f L)) no := by
  have hua : U a := by obtain ⟨_, _, _, _, hu⟩ := h.at hj; exact hu
  have hget : ∀ i t, (T.modify j (fun t => (t.1, t.2.1, f t.2.2)))[i]? = some t → (i = j ∧ t = (ownI o, a, f L)) ∨ (i ≠ j ∧ T[i]? = some t) := by
    intro i t hi
    rw [List.getElem?_modify] at hi
    by_cases e : j = i
    · subst e
      rw [hj] at hi
      simp at hi
      exact .inl ⟨rfl, hi.symm⟩
    · simp [e] at hi
      exact .inr ⟨fun h => e h.symm, hi⟩
  refine ⟨?_, fun t ht => ?_, fun o' a' ho' hne => ?_⟩
  · have : (T.modify j (fun t => (t.1, t.2.1, f t.2.2))).map (fun t => (t.1, t.2.1)) = T.map (fun t => (t.1, t.2.1)) := by
      apply List.ext_getElem?
      intro i
      rw [List.getElem?_map, List.getElem?_modify, List.getElem?_map]
      by_cases e : j = i
      · subst e; rw [hj]; simp
      · simp [e]
    rw [this]
    exact h.nd
  · obtain ⟨i, hi, e⟩ := List.getElem_of_mem ht
    have hi' : (T.modify j (fun t => (t.1, t.2.1, f t.2.2)))[i]? = some t := by rw [List.getElem?_eq_getElem hi, e]
    rcases hget i t hi' with ⟨rfl, rfl⟩ | ⟨hne, ht'⟩
    · exact ⟨o, ho, rfl, by simp [set2], hua⟩
    · obtain ⟨o', ho', e1, e2, hu⟩ := h.at ht'
      refine ⟨o', ho', e1, ?_, hu⟩
      unfold set2
      rw [if_neg]
      · exact e2
      · rintro ⟨rfl, hh⟩
        exact hne (h.inj ht' hj e1 hh)
  · by_cases e : o' = o ∧ a' = a
    · obtain ⟨rfl, rfl⟩ := e
      have : (T.modify j (fun t => (t.1, t.2.1, f t.2.2)))[j]? = some (ownI o', a', f L) := by rw [List.getElem?_modify, hj]; simp
      have hs : set2 SS o' a' (f L) o' a' = f L := by simp [set2]
      rw [hs]
      exact List.mem_of_getElem? this
    · have hs : set2 SS o a (f L) o' a' = SS o' a' := by unfold set2; rw [if_neg e]
      rw [hs] at hne ⊢
      obtain ⟨i, hi, e1⟩ := List.getElem_of_mem (h.only o' a' ho' hne)
      have hi' : T[i]? = some (ownI o', a', SS o' a') := by rw [List.getElem?_eq_getElem hi, e1]
      have hij : j ≠ i := by
        rintro rfl
        rw [hj] at hi'
        injection hi' with hi'
        simp only [Prod.mk.injEq] at hi'
        exact e ⟨ownI_inj hi'.1.symm, hi'.2.1.symm⟩
      have : (T.modify j (fun t => (t.1, t.2.1, f t.2.2)))[i]? = some (ownI o', a', SS o' a') := by rw [List.getElem?_modify, hi']; simp [hij]
      exact List.mem_of_getElem? this

/-- A new entry. -/
theorem Rel.snoc {o : Nat} {a : Int} {k : KM} (h : Rel T SS no) (ho : o < no) (ha : U a) (hn : ∀ t ∈ T, atT (ownI o) a t = false) :
    SS o a = [] ∧ Rel (T ++ [(ownI o, a, [k])]) (set2 SS o a [k]) no := by
  have hnil : SS o a = [] := by
    cases hs : SS o a with
    | nil => rfl
    | cons x L =>
      exfalso
      have := h.only o a ho (by rw [hs]; simp)
      have := hn _ this
      simp [atT] at this
  refine ⟨hnil, ?_, fun t ht => ?_, fun o' a' ho' hne => ?_⟩
  · rw [List.map_append, List.nodup_append]
    refine ⟨h.nd, by simp, fun x hx y hy => ?_⟩
    simp at hy
    subst hy
    rintro rfl
    obtain ⟨t, ht, e⟩ := List.mem_map.1 hx
    have h1 := hn t ht
    simp only [Prod.mk.injEq] at e
    simp [atT, e.1, e.2] at h1
  · rcases List.mem_append.1 ht with hm | hm
    · obtain ⟨o', ho', e1, e2, hu⟩ := h.look t hm
      refine ⟨o', ho', e1, ?_, hu⟩
      unfold set2
      rw [if_neg]
      · exact e2
      · rintro ⟨rfl, hh⟩
        have h1 := hn t hm
        simp [atT, e1, hh] at h1
    · simp at hm
      subst hm
      exact ⟨o, ho, rfl, by simp [set2], ha⟩
  · by_cases e : o' = o ∧ a' = a
    · obtain ⟨rfl, rfl⟩ := e
      simp [set2]
    · have hs : set2 SS o a [k] o' a' = SS o' a' := by unfold set2; rw [if_neg e]
      rw [hs] at hne ⊢
      exact List.mem_append.2 (.inl (h.only o' a' ho' hne))

theorem Rel.put {o : Nat} {a : Int} {k : KM} (h : Rel T SS no) (ho : o < no) (ha : U a) : Rel (putT T (ownI o) a k) (set2 SS o a (ins (SS o a) k)) no := by
  unfold putT
  cases hf : T.findIdx? (atT (ownI o) a) with
  | none =>
    rw [List.findIdx?_eq_none_iff] at hf
    obtain ⟨h1, h2⟩ := h.snoc (k := k) ho ha hf
    simp only
    rw [h1]
    exact h2
  | some i =>
    rw [List.findIdx?_eq_some_iff_getElem] at hf
    obtain ⟨hi, hat, _⟩ := hf
    have hti : T[i]? = some T[i] := List.getElem?_eq_getElem hi
    obtain ⟨o', ho', e1, e2, _⟩ := h.at hti
    simp only [atT, Bool.and_eq_true, beq_iff_eq] at hat
    have : o' = o := ownI_inj (e1.symm.trans hat.1)
    subst this
    rw [hat.2] at e2
    have hti' : T[i]? = some (ownI o', a, SS o' a) := by
      rw [hti, e2]
      congr 1
      exact Prod.ext hat.1 (Prod.ext hat.2 rfl)
    exact h.turn hti' ho (fun L => ins L k)

theorem Rel.nil (no : Nat) : Rel [] (fun _ _ => []) no := ⟨by simp, by simp, fun _ _ _ h => absurd rfl h⟩
end

/-- One envelope, in the model. -/
def stepT (ps : List Peer) (unm ids : List Int) (sf : Int) (up : Int → Int) (T : TT) (x : Env × Msg) : TT :=
  if x.1.origin = sf then (if x.1.seq ≤ up x.1.name then putT T (-1) x.1.name (km x.1 x.2 sf) else T)
  else match ps.find? (fun p => p.id == x.1.origin) with
    | none => T
    | some p => if (decide ((nowF ps ids sf p (ids.filter (lackId ps x.1.name x.1.seq sf))).length < (ids.filter (lackId ps x.1.name x.1.seq sf)).length) || awaitB unm x.1.name) = true then putT T (ownI (ownOf ps x.1.origin)) x.1.name (km x.1 x.2 sf) else T
def runT (ps : List Peer) (unm ids : List Int) (sf : Int) (up : Int → Int) (xs : List (Env × Msg)) : TT := xs.foldl (stepT ps unm ids sf up) []

theorem Rel.step {T : TT} {SS : Nat → Int → List KM} {no : Nat} {ps : List Peer} {unm ids : List Int} {sf : Int} {up : Int → Int} {mk : Nat} {KB : Nat → Nat} (h : Rel T SS no) (hkb : KBs ps mk no KB) (x : Env × Msg) (hx : U x.1.name) : Rel (stepT ps unm ids sf up T x) (stepS ps unm ids sf up SS x) no := by
  unfold stepT stepS
  by_cases h1 : x.1.origin = sf
  · rw [if_pos h1, if_pos h1]
    by_cases h2 : x.1.seq ≤ up x.1.name
    · rw [if_pos h2, if_pos h2]
      exact h.put (o := 0) (by rw [hkb.no]; omega) hx
    · rw [if_neg h2, if_neg h2]
      exact h
  · rw [if_neg h1, if_neg h1]
    cases hp : ps.find? (fun p => p.id == x.1.origin) with
    | none => exact h
    | some p =>
      simp only
      split
      · exact h.put (hkb.at hp).1 hx
      · exact h

theorem Rel.run {no : Nat} {ps : List Peer} {unm ids : List Int} {sf : Int} {up : Int → Int} {mk : Nat} {KB : Nat → Nat} (hkb : KBs ps mk no KB) (xs : List (Env × Msg)) (hx : ∀ x ∈ xs, U x.1.name) : Rel (runT ps unm ids sf up xs) (runS ps unm ids sf up (fun _ _ => []) xs) no := by
  have key : ∀ (xs : List (Env × Msg)) (T : TT) (SS : Nat → Int → List KM), (∀ x ∈ xs, U x.1.name) → Rel T SS no → Rel (xs.foldl (stepT ps unm ids sf up) T) (xs.foldl (stepS ps unm ids sf up) SS) no := by
    intro xs
    induction xs with
    | nil => intro T SS _ h; exact h
    | cons x xs ih =>
      intro T SS hx h
      rw [List.foldl_cons, List.foldl_cons]
      exact ih _ _ (fun y hy => hx y (by simp [hy])) (h.step hkb x (hx x (by simp)))
  exact key xs [] _ hx (Rel.nil no)

/-- The model's floor. -/
def floorM (ps : List Peer) (name : Int) : Int := if ps.any (fun q => (q.id != name) && (q.st != 2)) then 0 else 18446744073709551615
def leftM (ps : List Peer) (unm : List Int) (name : Int) (L : List KM) : List KM := if awaitB unm name = true then L else L.filter (fun x => decide (floorM ps name < x.seq))
/-- Which entry the model settles. -/
def tIdx (ps : List Peer) (sf : Int) (T : TT) (s : Nat) (name : Int) : Option Nat := if name = sf then some s else match ps.findIdx? (fun p => p.id == name) with
  | none => none
  | some j => T.findIdx? (atT (j : Int) name)
def settleT (ps : List Peer) (unm : List Int) (sf : Int) (T : TT) (s : Nat) : TT := match T[s]? with
  | none => T
  | some t => if t.1 ≠ -1 then T else match tIdx ps sf T s t.2.1 with
    | none => T
    | some j => T.modify j (fun x => (x.1, x.2.1, leftM ps unm t.2.1 x.2.2))
def TS (ps : List Peer) (unm : List Int) (sf : Int) (T : TT) : Nat → TT
  | 0 => T
  | k + 1 => settleT ps unm sf (TS ps unm sf T k) k

theorem keys_modify (T : TT) (j : Nat) (f : List KM → List KM) : (T.modify j (fun x => (x.1, x.2.1, f x.2.2))).map (fun t => (t.1, t.2.1)) = T.map (fun t => (t.1, t.2.1)) := by
  apply List.ext_getElem?
  intro i
  rw [List.getElem?_map, List.getElem?_modify, List.getElem?_map]
  by_cases e : j = i
  · subst e; cases T[j]? <;> simp
  · simp [e]
theorem keys_settle (ps : List Peer) (unm : List Int) (sf : Int) (T : TT) (s : Nat) : (settleT ps unm sf T s).map (fun t => (t.1, t.2.1)) = T.map (fun t => (t.1, t.2.1)) := by
  unfold settleT
  split
  · rfl
  · split
    · rfl
    · split
      · rfl
      · exact keys_modify _ _ _
theorem keys_TS (ps : List Peer) (unm : List Int) (sf : Int) (T : TT) : ∀ k, (TS ps unm sf T k).map (fun t => (t.1, t.2.1)) = T.map (fun t => (t.1, t.2.1))
  | 0 => rfl
  | k + 1 => by
    show (settleT ps unm sf (TS ps unm sf T k) k).map _ = _
    rw [keys_settle, keys_TS ps unm sf T k]
theorem len_TS (ps : List Peer) (unm : List Int) (sf : Int) (T : TT) (k : Nat) : (TS ps unm sf T k).length = T.length := by
  have := congrArg List.length (keys_TS ps unm sf T k)
  simpa using this

theorem floor_eq {ps : List Peer} {ids : List Int} {name : Int} (hi : ∀ a, a ∈ ids ↔ ∃ p ∈ ps, p.id = a) (hf : ∀ p ∈ ps, ps.find? (fun q => q.id == p.id) = some p) : floorM ps name = floorF ps name ids := by
  unfold floorM floorF
  congr 1
  rw [eq_iff_iff, List.any_eq_true, List.any_eq_true]
  constructor
  · rintro ⟨q, hq, h⟩
    refine ⟨q.id, (hi q.id).2 ⟨q, hq, rfl⟩, ?_⟩
    unfold liveB
    rw [hf q hq]
    exact h
  · rintro ⟨a, ha, h⟩
    obtain ⟨p, hp, rfl⟩ := (hi a).1 ha
    unfold liveB at h
    rw [hf p hp] at h
    exact ⟨p, hp, h⟩

theorem left_eq {ps : List Peer} {unm ids : List Int} {name : Int} (hi : ∀ a, a ∈ ids ↔ ∃ p ∈ ps, p.id = a) (hf : ∀ p ∈ ps, ps.find? (fun q => q.id == p.id) = some p) (L : List KM) : leftM ps unm name L = leftF ps unm ids name L := by
  unfold leftM leftF
  rw [floor_eq hi hf]

theorem leftF_nil (ps : List Peer) (unm ids : List Int) (name : Int) : leftF ps unm ids name [] = [] := by unfold leftF; split <;> rfl

/-- The names that the first k rounds settle. -/
def visB (T : TT) (k : Nat) (a : Int) : Bool := (T.take k).any (fun t => (t.1 == -1) && (t.2.1 == a))

theorem Rel.settled {T : TT} {SS : Nat → Int → List KM} {no mk : Nat} {KB : Nat → Nat} {ps : List Peer} {unm ids : List Int} {sf : Int} (h : Rel T SS no) (hkb : KBs ps mk no KB) (hi : ∀ a, a ∈ ids ↔ ∃ p ∈ ps, p.id = a) (hf : ∀ p ∈ ps, ps.find? (fun q => q.id == p.id) = some p) :
    ∀ k, k ≤ T.length → Rel (TS ps unm sf T k) (setl ps unm ids sf SS (visB T k)) no
  | 0, _ => by
    have : setl ps unm ids sf SS (visB T 0) = SS := by
      funext o a
      unfold setl
      rw [if_neg]
      rintro ⟨h1, _⟩
      simp [visB] at h1
    rw [this]
    exact h
  | k + 1, hk => by
    have ih := Rel.settled (unm := unm) (sf := sf) h hkb hi hf k (by omega)
    have hlen := len_TS ps unm sf T k
    obtain ⟨t, ht⟩ : ∃ t, (TS ps unm sf T k)[k]? = some t := ⟨_, List.getElem?_eq_getElem (by omega)⟩
    obtain ⟨t0, ht0⟩ : ∃ t0, T[k]? = some t0 := ⟨_, List.getElem?_eq_getElem (by omega)⟩
    have hkey : t.1 = t0.1 ∧ t.2.1 = t0.2.1 := by
      have e := congrArg (fun l => l[k]?) (keys_TS ps unm sf T k)
      simp only [List.getElem?_map, ht, ht0, Option.map_some, Option.some.injEq, Prod.mk.injEq] at e
      exact e
    have hvis : ∀ a, visB T (k + 1) a = (visB T k a || ((t.1 == -1) && (t.2.1 == a))) := fun a => by
      unfold visB
      rw [List.take_add_one, ht0, List.any_append, hkey.1, hkey.2]
      simp
    show Rel (settleT ps unm sf (TS ps unm sf T k) k) _ no
    unfold settleT
    rw [ht]
    simp only
    by_cases h1 : t.1 ≠ -1
    · rw [if_pos h1]
      have : setl ps unm ids sf SS (visB T (k + 1)) = setl ps unm ids sf SS (visB T k) := by
        funext o a
        unfold setl
        rw [hvis a]
        have : (t.1 == -1) = false := by simpa using h1
        simp [this]
      rw [this]
      exact ih
    · rw [if_neg h1]
      have h1' : t.1 = -1 := Classical.byContradiction h1
      have hnew : visB T k t.2.1 = false := by
        unfold visB
        rw [List.any_eq_false]
        intro x hx hh
        simp only [Bool.and_eq_true, beq_iff_eq] at hh
        obtain ⟨j, hj, e⟩ := List.getElem_of_mem hx
        have hjk : j < k := by simp at hj; omega
        rw [List.getElem_take] at e
        have hxj : T[j]? = some x := by rw [List.getElem?_eq_getElem (by simp at hj; omega), e]
        have := h.inj hxj ht0 (by rw [hh.1, ← hkey.1, h1']) (by rw [hh.2, hkey.2])
        omega
      -- whose map?
      have hset : ∀ o, tOf ps sf t.2.1 = some o → setl ps unm ids sf SS (visB T (k + 1)) = set2 (setl ps unm ids sf SS (visB T k)) o t.2.1 (leftF ps unm ids t.2.1 (setl ps unm ids sf SS (visB T k) o t.2.1)) := fun o ho => by
        have hso : setl ps unm ids sf SS (visB T k) o t.2.1 = SS o t.2.1 := by unfold setl; rw [if_neg (by rintro ⟨h, _⟩; rw [hnew] at h; cases h)]
        funext o' a'
        unfold set2
        by_cases e : o' = o ∧ a' = t.2.1
        · obtain ⟨rfl, rfl⟩ := e
          rw [if_pos ⟨rfl, rfl⟩, hso]
          unfold setl
          rw [if_pos ⟨by rw [hvis]; simp [h1'], ho⟩]
        · rw [if_neg e]
          unfold setl
          rw [hvis a']
          by_cases ea : a' = t.2.1
          · subst ea
            have hne : ¬ tOf ps sf t.2.1 = some o' := fun hh => by
              rw [ho] at hh
              injection hh with hh
              exact e ⟨hh.symm, rfl⟩
            rw [if_neg (fun h => hne h.2), if_neg (fun h => hne h.2)]
          · have : (t.2.1 == a') = false := by simpa using fun h : t.2.1 = a' => ea h.symm
            simp [this]
      have hnone : tOf ps sf t.2.1 = none → setl ps unm ids sf SS (visB T (k + 1)) = setl ps unm ids sf SS (visB T k) := fun hn => by
        funext o' a'
        unfold setl
        rw [hvis a']
        by_cases ea : a' = t.2.1
        · subst ea
          rw [if_neg (fun h => by rw [hn] at h; cases h.2), if_neg (fun h => by rw [hn] at h; cases h.2)]
        · have : (t.2.1 == a') = false := by simpa using fun h : t.2.1 = a' => ea h.symm
          simp [this]
      have hleft : ∀ L, leftM ps unm t.2.1 L = leftF ps unm ids t.2.1 L := left_eq hi hf
      by_cases hs : t.2.1 = sf
      · have hidx : tIdx ps sf (TS ps unm sf T k) k t.2.1 = some k := by unfold tIdx; rw [if_pos hs]
        rw [hidx]
        simp only
        rw [hset 0 (by unfold tOf; rw [if_pos hs])]
        obtain ⟨o', ho', e1, e2, _⟩ := ih.at ht
        have : o' = 0 := ownI_inj (e1.symm.trans h1')
        subst this
        have ht' : (TS ps unm sf T k)[k]? = some (ownI 0, t.2.1, setl ps unm ids sf SS (visB T k) 0 t.2.1) := by
          rw [ht, e2]
          congr 1
          exact Prod.ext h1' rfl
        have := ih.turn ht' ho' (leftM ps unm t.2.1)
        rw [hleft] at this
        exact this
      · cases hfi : ps.findIdx? (fun p => p.id == t.2.1) with
        | none =>
          have hidx : tIdx ps sf (TS ps unm sf T k) k t.2.1 = none := by unfold tIdx; rw [if_neg hs, hfi]
          rw [hidx]
          simp only
          rw [hnone ?_]
          · exact ih
          · unfold tOf
            rw [if_neg hs, if_neg]
            rw [List.findIdx?_eq_none_iff] at hfi
            rw [List.find?_eq_none.2 (fun p hp => by rw [hfi p hp]; simp)]
            simp
        | some j =>
          have hidx : tIdx ps sf (TS ps unm sf T k) k t.2.1 = (TS ps unm sf T k).findIdx? (atT (j : Int) t.2.1) := by unfold tIdx; rw [if_neg hs, hfi]
          have hfj := hfi
          rw [List.findIdx?_eq_some_iff_getElem] at hfj
          obtain ⟨hjl, hja, hjn⟩ := hfj
          have hfnd : ps.find? (fun p => p.id == t.2.1) = some ps[j] := by
            rw [List.find?_eq_some_iff_getElem]
            exact ⟨hja, j, hjl, rfl, fun i hij => by have := hjn i hij; simpa using this⟩
          have hown : ownOf ps t.2.1 = j + 1 := by
            unfold ownOf
            congr 1
            rw [List.findIdx?_eq_some_iff_findIdx_eq] at hfi
            exact hfi.2
          have htof : tOf ps sf t.2.1 = some (j + 1) := by unfold tOf; rw [if_neg hs, if_pos (by rw [hfnd]; rfl), hown]
          have hjno : j + 1 < no := by rw [hkb.no]; omega
          rw [hidx, hset _ htof]
          cases hft : (TS ps unm sf T k).findIdx? (atT (j : Int) t.2.1) with
          | none =>
            simp only
            rw [List.findIdx?_eq_none_iff] at hft
            have hnil : setl ps unm ids sf SS (visB T k) (j + 1) t.2.1 = [] := (ih.snoc (k := ⟨0, none, 0, 0, 0⟩) (o := j + 1) (a := t.2.1) hjno (by obtain ⟨_, _, _, _, hu⟩ := ih.at ht; exact hu) hft).1
            rw [hnil, leftF_nil, set2_same _ _ _ _ hnil]
            exact ih
          | some i =>
            simp only
            rw [List.findIdx?_eq_some_iff_getElem] at hft
            obtain ⟨hil, hat, _⟩ := hft
            simp only [atT, Bool.and_eq_true, beq_iff_eq] at hat
            have hti : (TS ps unm sf T k)[i]? = some (TS ps unm sf T k)[i] := List.getElem?_eq_getElem hil
            obtain ⟨o', ho', e1, e2, _⟩ := ih.at hti
            have : o' = j + 1 := ownI_inj (e1.symm.trans hat.1)
            subst this
            rw [hat.2] at e2
            have hti' : (TS ps unm sf T k)[i]? = some (ownI (j + 1), t.2.1, setl ps unm ids sf SS (visB T k) (j + 1) t.2.1) := by
              rw [hti, e2]
              congr 1
              exact Prod.ext hat.1 (Prod.ext hat.2 rfl)
            have := ih.turn hti' ho' (leftM ps unm t.2.1)
            rw [hleft] at this
            exact this

/-- All rounds: the names that mine holds. -/
theorem vis_all {T : TT} {SS : Nat → Int → List KM} {no : Nat} (h : Rel T SS no) (h0 : 0 < no) (hne : ∀ t ∈ T, t.2.2 ≠ []) (a : Int) : visB T T.length a = decide (SS 0 a ≠ []) := by
  unfold visB
  rw [List.take_length]
  by_cases hs : SS 0 a = []
  · rw [decide_eq_false (by simpa using hs), List.any_eq_false]
    intro t ht hh
    simp only [Bool.and_eq_true, beq_iff_eq] at hh
    obtain ⟨o, ho, e1, e2, _⟩ := h.look t ht
    have : o = 0 := ownI_inj (e1.symm.trans hh.1)
    subst this
    rw [hh.2, hs] at e2
    exact hne t ht e2.symm
  · rw [decide_eq_true hs, List.any_eq_true]
    exact ⟨_, h.only 0 a h0 hs, by simp [ownI]⟩

theorem putT_ne {T : TT} {o n : Int} {k : KM} (h : ∀ t ∈ T, t.2.2 ≠ []) : ∀ t ∈ putT T o n k, t.2.2 ≠ [] := by
  intro t ht
  unfold putT at ht
  split at ht
  · obtain ⟨i, hi, e⟩ := List.getElem_of_mem ht
    rw [List.getElem_modify] at e
    split at e
    · rw [← e]; exact ins_ne_nil _ _
    · rw [← e]; exact h _ (List.getElem_mem (by simpa using hi))
  · rcases List.mem_append.1 ht with ht | ht
    · exact h t ht
    · simp at ht; subst ht; simp
theorem runT_ne (ps : List Peer) (unm ids : List Int) (sf : Int) (up : Int → Int) (xs : List (Env × Msg)) : ∀ t ∈ runT ps unm ids sf up xs, t.2.2 ≠ [] := by
  have key : ∀ (xs : List (Env × Msg)) (T : TT), (∀ t ∈ T, t.2.2 ≠ []) → ∀ t ∈ xs.foldl (stepT ps unm ids sf up) T, t.2.2 ≠ [] := by
    intro xs
    induction xs with
    | nil => intro T h; exact h
    | cons x xs ih =>
      intro T h
      rw [List.foldl_cons]
      refine ih _ ?_
      unfold stepT
      split
      · split
        · exact putT_ne h
        · exact h
      · split
        · exact h
        · split
          · exact putT_ne h
          · exact h
  exact key xs [] (by simp)
end Go.Proofs.Ybulkdkqw.lawS5586AWhole
