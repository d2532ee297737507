import Derived.Test.YbulkdkqwQMap
namespace Go.Proofs.Ybulkdkqw.lawS5586AWhole
open Go.ChangeShapes Go.WideShapes Go.ChangeAt Go.RowKit
open Go.ChangeMaps
open Go.WideElems (Fit rd rg rd_key rd_val rg_of rd_mk other_key)
open Go.Maps (Keyed)

section
variable {H : Type} {P : Program} {k : TypeId} {R : Value → Option (DataW H × List MemPlace)} {w : World} {b r n : Nat} {D : DataW H} {left : Lit → Bool} {cnt : Nat}

/-- A store at a key THAT IS THERE into the map that is ranged over. -/
theorem ranges_storeAt {t e : TypeId} (h : w.ranges P k R b r n D left cnt) (K : Keyed P k) (ht : P.underlying t = some (.map k e)) (hn : n < maxLen) {key val : Value} {kl : Lit} {d : DataW H} {ps : List MemPlace}
    (hkey : keyOf P k key = some kl) (hv : R val = some (d, ps)) (hhas : Go.Maps.has D kl = true) :
    ∃ w', (Instr.mapUpdate t (.map (some b)) key val).run P w = .ok () w' ∧ w'.ranges P k R b r n (D.put kl d) left cnt ∧ w.mapTurned w' b := by
  have hne := h.ne
  obtain ⟨es, clock, since, seen, c0, hb, F, hs, rfl, hr, hold, rfl, hl1, hl2, hsc, hsk⟩ := h
  obtain ⟨es', clock', hrun, F', hput, _, _, _⟩ := Go.Maps.fit_store (R' := R) K ht hb F (Nat.lt_of_le_of_lt hs hn) (fun _ _ _ _ hz => hz) hkey hv
  rcases K.find w hkey es.toList F.keys with ⟨_, h2⟩ | ⟨j, e0, h1, h2, h3⟩
  · exfalso
    obtain ⟨p, hp, hpk⟩ := List.any_eq_true.1 hhas
    obtain ⟨x, hx, rfl⟩ := List.mem_map.1 (mem_sorted.1 hp)
    obtain ⟨y, hy⟩ := F.reads x hx
    have e1 := WideAt.sameKey_eq hpk
    rw [rg_of hy] at e1
    exact h2 x hx (K.inj (e1 ▸ rd_key hy) hkey)
  · have hj : es[j]? = some e0 := by simpa using h2
    have hjl : j < es.toList.length := (List.getElem?_eq_some_iff.1 h2).1
    have hrun2 : (Instr.mapUpdate t (.map (some b)) key val).run P w = .ok () (setBlock w b (.map (es.modify j (fun e' => { e' with key := key, val := val })) clock)) := by
      simp [Instr.mapUpdate, run_underlying ht, MapKept.run_getObj_map hb, K.check w false hkey, h1, hj, h3, K.stays w hkey, MapKept.run_setObj_map _ hb, Result.andThen, setBlock]
    rw [hrun] at hrun2
    injection hrun2 with _ hw
    have hblk := congrArg (fun w : World => w.heap[b]?) hw
    simp only [heap_setBlock_same hb] at hblk
    injection hblk with hblk
    injection hblk with hes hcl
    subst hes hcl
    have hlist : (es.modify j (fun e' => { e' with key := key, val := val })).toList = es.toList.set j { e0 with key := key, val := val } := by rw [Array.toList_modify, modify_eq_set _ _ _ _ h2]
    have hmem0 : e0 ∈ es.toList := List.mem_of_getElem? h2
    have hk0 : (rg P k R e0).1 = kl := by
      obtain ⟨y, hy⟩ := F.reads e0 hmem0
      have m1 := rd_key hy
      rw [h3, hkey] at m1
      rw [rg_of hy]
      exact (Option.some.inj m1).symm
    have hkn : (rg P k R { e0 with key := key, val := val }).1 = kl := by
      rw [rg_of (rd_mk hkey hv)]
    have who : ∀ x ∈ (es.modify j (fun e' => { e' with key := key, val := val })).toList, ∃ x0 ∈ es.toList, x.born = x0.born ∧ (rg P k R x).1 = (rg P k R x0).1 := by
      intro x hx
      rw [hlist] at hx
      obtain ⟨i, hi, ex⟩ := List.getElem_of_mem hx
      rw [List.getElem_set] at ex
      split at ex
      · refine ⟨e0, hmem0, by rw [← ex], ?_⟩
        rw [← ex, hkn, hk0]
      · have hi' : i < es.toList.length := by simpa using hi
        exact ⟨x, ex ▸ List.getElem_mem hi', rfl, rfl⟩
    have who2 : ∀ x0 ∈ es.toList, ∃ x ∈ (es.modify j (fun e' => { e' with key := key, val := val })).toList, (rg P k R x).1 = (rg P k R x0).1 := by
      intro x0 hx0
      obtain ⟨i, hi, rfl⟩ := List.getElem_of_mem hx0
      rw [hlist]
      by_cases hij : i = j
      · subst hij
        rw [List.getElem?_eq_getElem hi] at h2
        cases h2
        exact ⟨{ es.toList[i] with key := key, val := val }, List.mem_iff_getElem.2 ⟨i, by simpa using hi, by simp⟩, by rw [hkn, hk0]⟩
      · exact ⟨es.toList[i], List.mem_iff_getElem.2 ⟨i, by simpa using hi, by rw [List.getElem_set_ne (fun e => hij e.symm)]⟩, rfl⟩
    refine ⟨_, hrun, ⟨_, _, since, seen, c0, heap_setBlock_same hb _, F', by simpa using hs, by rw [DataW.put_eq, hput], (heap_setBlock_other hb _ hne).trans hr, fun x hx => ?_, ?_, fun x hx => ?_, fun kl' hkl' => ?_, hsc, hsk⟩, ⟨es, _, _, _, hb, rfl⟩⟩
    · obtain ⟨x0, h0, hbn, _⟩ := who x hx
      rw [hbn]; exact hold x0 h0
    · have e1 : ∀ a : Array MapEntry, (leftOf a seen).size = (a.toList.filter fun e => !seen.contains e.born).length := fun a => by
        unfold leftOf
        rw [← Array.toList_filter, Array.length_toList]
      rw [e1, e1, hlist]
      have e2 : ∀ l : List MapEntry, (l.filter fun e => !seen.contains e.born).length = ((l.map MapEntry.born).filter fun c => !seen.contains c).length := fun l => by
        rw [List.filter_map, List.length_map]; rfl
      rw [e2, e2, List.map_set]
      congr 2
      apply List.ext_getElem?
      intro i
      rw [List.getElem?_set]
      split
      · rename_i hij
        subst hij
        rw [List.getElem?_map, h2]
        simp
        simpa using hjl
      · rfl
    · obtain ⟨x0, h0, hbn, hrg⟩ := who x hx
      rw [hrg, hbn]
      exact hl1 x0 h0
    · obtain ⟨x0, h0, rfl⟩ := hl2 kl' hkl'
      exact who2 x0 h0
end

/-- 'for a := range m' UNDER WAY: block b a map, block r the iterator; left a: is key a still to come? -/
def RangeF (w : World) (b r n : Nat) (F : Int → Option Value) (left : Int → Bool) (cnt : Nat) : Prop :=
  ∃ D L, w.ranges Yba.prog 22 rawR b r n D L cnt ∧ Go.Maps.size D = n ∧ (∀ a, U a → Go.Maps.has D (.int .u64 a) = (F a).isSome ∧ ∀ z, D.atKey (.int .u64 a) (.held z) = .held ((F a).getD z)) ∧ ∀ a, U a → L (.int .u64 a) = left a

section
variable {w w' : World} {b r n cnt : Nat} {F : Int → Option Value} {left : Int → Bool}

theorem RangeF.mapF (h : RangeF w b r n F left cnt) : MapF w b F n := by
  obtain ⟨D, L, h1, h2, h3, _⟩ := h
  exact ⟨D, h1.owns, h2, h3⟩
theorem RangeF.left_eq (h : RangeF w b r n F left cnt) : w.rangeLeft b r = cnt := by obtain ⟨D, L, h1, _⟩ := h; exact h1.left_eq
theorem RangeF.lt (h : RangeF w b r n F left cnt) : r < w.heap.size := by obtain ⟨D, L, h1, _⟩ := h; exact h1.lt
theorem RangeF.ne (h : RangeF w b r n F left cnt) : r ≠ b := by obtain ⟨D, L, h1, _⟩ := h; exact h1.ne
theorem RangeF.of_blocks (h : RangeF w b r n F left cnt) (e1 : w'.heap[b]? = w.heap[b]?) (e2 : w'.heap[r]? = w.heap[r]?) : RangeF w' b r n F left cnt := by
  obtain ⟨D, L, ⟨es, clock, since, seen, c0, hb, F1, hs, hD, hr, rest⟩, h2⟩ := h
  exact ⟨D, L, ⟨es, clock, since, seen, c0, e1.trans hb, F1, hs, hD, e2.trans hr, rest⟩, h2⟩
theorem RangeF.later (h : RangeF w b r n F left cnt) (hb : Below w.heap.size w w') : RangeF w' b r n F left cnt := h.of_blocks (hb.block _ h.mapF.lt) (hb.block _ h.lt)

theorem MapF.range (h : MapF w b F n) {t e : TypeId} (ht : Yba.prog.underlying t = some (.map 22 e)) :
    ∃ w', (Instr.range t (.map (some b))).run Yba.prog w = .ok (.pointer (some ⟨w.heap.size, 0, none⟩)) w' ∧ RangeF w' b w.heap.size n F (fun a => (F a).isSome) n ∧ Below w.heap.size w w' ∧ w'.heap.size = w.heap.size + 1 := by
  obtain ⟨D, h1, h2, h3⟩ := h
  obtain ⟨w', hr, hrg, hg, hs⟩ := h1.range keyed ht
  rw [h2] at hrg
  exact ⟨w', hr, ⟨D, _, hrg, h2, h3, fun a ha => (h3 a ha).1⟩, ⟨hg.os, hg.tape, hg.output, hg.size, fun k hk => hg.block k hk (by simp)⟩, hs⟩

theorem RangeF.next (h : RangeF w b r n F left cnt) (ty : TypeId) :
    ((∀ a, U a → left a = false) ∧ (Instr.next (.pointer (some ⟨r, 0, none⟩)) false ty).run Yba.prog w = .ok (.tuple #[.bool false]) w) ∨
    ∃ a v w' cnt', U a ∧ left a = true ∧ F a = some v ∧ (Instr.next (.pointer (some ⟨r, 0, none⟩)) false ty).run Yba.prog w = .ok (.tuple #[.bool true, .int .u64 a, v]) w' ∧
      RangeF w' b r n F (fun x => left x && !(x == a)) cnt' ∧ cnt' < cnt ∧ w.grownBy w' (some r) ∧ w'.heap.size = w.heap.size ∧ (Instr.entry (.pointer (some ⟨r, 0, none⟩))).run Yba.prog w' = .ok (.tuple #[.int .u64 a, v]) w' := by
  obtain ⟨D, L, h1, h2, h3, h4⟩ := h
  rcases h1.next keyed ty with ⟨_, hl, hrun⟩ | ⟨key, v, kl, y, w', cnt', hkey, hl, hv, hat, hrun, hrg, hlt, hg, hsz, hen⟩
  · exact .inl ⟨fun a ha => by rw [← h4 a ha]; exact hl _, hrun⟩
  · obtain ⟨a, rfl, rfl, hwf⟩ := Go.Maps.keyOf_int_inv Yba.underlying22 hkey
    have ha : U a := U.of_wf hwf
    simp [rawR] at hv
    subst hv
    have hF : F a = some v := by
      cases hFa : F a with
      | some u =>
        have e1 := (h3 a ha).2 (.bool true)
        rw [hat, hFa] at e1
        simp at e1
        rw [e1]
      | none =>
        exfalso
        have e1 := (h3 a ha).2 (.bool true)
        have e2 := (h3 a ha).2 (.bool false)
        rw [hat, hFa] at e1 e2
        simp at e1 e2
        rw [e1] at e2
        cases e2
    refine .inr ⟨a, v, w', cnt', ha, by rw [← h4 a ha]; exact hl, hF, hrun, ⟨D, _, hrg, h2, h3, fun c hc => ?_⟩, hlt, hg, hsz, hen⟩
    show (L (.int .u64 c) && !(Lit.int .u64 c).sameKey (.int .u64 a)) = (left c && !(c == a))
    rw [h4 c hc]
    by_cases hca : c = a
    · subst hca
      rw [WideAt.sameKey_self (isKeyLit hc), beq_self_eq_true]
    · rw [Go.Maps.sameKey_ne (lit_ne hca), beq_eq_false_iff_ne.2 hca]

theorem RangeF.drop (h : RangeF w b r n F left cnt) {t e : TypeId} (ht : Yba.prog.underlying t = some (.map 22 e)) {a : Int} (ha : U a) (hl : left a = false) (hF : (F a).isSome = true) (ty : TypeId) :
    ∃ w' cnt', (Builtin.delete_ #[t, 22] ty #[.map (some b), .int .u64 a]).run Yba.prog w = .ok (.tuple #[]) w' ∧ RangeF w' b r (n - 1) (upd F a none) left cnt' ∧ cnt' ≤ cnt ∧ w.grownBy w' (some b) := by
  obtain ⟨D, L, h1, h2, h3, h4⟩ := h
  have htidy := h1.owns.tidy keyed
  obtain ⟨w', cnt', hr, hrg, hle, ht'⟩ := h1.drop keyed ht ha.key ty
  have hsz := Go.Maps.size_del (k := .int .u64 a) htidy
  rw [(h3 a ha).1, h2, hF, if_pos rfl] at hsz
  have hsz' : Go.Maps.size (D.del (.int .u64 a)) = n - 1 := by omega
  refine ⟨w', cnt', hr, ⟨D.del (.int .u64 a), fun x => L x && !x.sameKey (.int .u64 a), ?_, hsz', fun c hc => ?_, fun c hc => ?_⟩, hle, ht'.grown⟩
  · obtain ⟨es, clock, since, seen, c0, hb, F1, hs, hD, rest⟩ := hrg
    refine ⟨es, clock, since, seen, c0, hb, F1, ?_, hD, rest⟩
    have : Go.Maps.size (D.del (.int .u64 a)) = es.size := by rw [hD]; simp [Go.Maps.size, length_sorted]
    omega
  · unfold upd
    by_cases hca : c = a
    · subst hca
      rw [if_pos rfl]
      exact ⟨by rw [Go.Maps.has_del_same]; rfl, fun z => by rw [Go.Maps.atKey_del_same]; rfl⟩
    · rw [if_neg hca]
      exact ⟨by rw [Go.Maps.has_del_other (lit_ne hca)]; exact (h3 c hc).1, fun z => by rw [Go.Maps.atKey_del_other (lit_ne hca)]; exact (h3 c hc).2 z⟩
  · show (L (.int .u64 c) && !(Lit.int .u64 c).sameKey (.int .u64 a)) = left c
    by_cases hca : c = a
    · subst hca
      rw [WideAt.sameKey_self (isKeyLit hc), hl]
      simp
    · rw [Go.Maps.sameKey_ne (lit_ne hca), h4 c hc]
      simp

theorem RangeF.store (h : RangeF w b r n F left cnt) {t e : TypeId} (ht : Yba.prog.underlying t = some (.map 22 e)) (hn : n < maxLen) {a : Int} (ha : U a) (hF : (F a).isSome = true) (v : Value) :
    ∃ w', (Instr.mapUpdate t (.map (some b)) (.int .u64 a) v).run Yba.prog w = .ok () w' ∧ RangeF w' b r n (upd F a (some v)) left cnt ∧ w.grownBy w' (some b) := by
  obtain ⟨D, L, h1, h2, h3, h4⟩ := h
  have htidy := h1.owns.tidy keyed
  have hism := h1.owns.isMap
  obtain ⟨w', hr, hrg, ht'⟩ := ranges_storeAt h1 keyed ht hn ha.key (val := v) (d := .held v) (ps := []) rfl (by rw [(h3 a ha).1]; exact hF)
  have hsz := Go.Maps.size_put (k := .int .u64 a) htidy (.held v)
  rw [(h3 a ha).1, h2, hF, if_pos rfl] at hsz
  refine ⟨w', hr, ⟨D.put (.int .u64 a) (.held v), L, hrg, hsz, fun c hc => ?_, h4⟩, ht'.grown⟩
  unfold upd
  by_cases hca : c = a
  · subst hca
    rw [if_pos rfl]
    exact ⟨by rw [Go.Maps.has_put_same hism (isKeyLit hc)]; rfl, fun z => by rw [Go.Maps.atKey_put_same hism (isKeyLit hc)]; rfl⟩
  · rw [if_neg hca]
    exact ⟨by rw [Go.Maps.has_put_other (lit_ne hca)]; exact (h3 c hc).1, fun z => by rw [Go.Maps.atKey_put_other (lit_ne hca)]; exact (h3 c hc).2 z⟩
end
end Go.Proofs.Ybulkdkqw.lawS5586AWhole
