import Derived.Test.YbulkdkqwQRow
import Derived.Maps.AppendAt
import Derived.Laws.CopyOwn
namespace Go.Proofs.Ybulkdkqw.lawS5586AWhole
open Go.ChangeShapes Go.WideShapes Go.ChangeAt Go.RowKit

theorem cmixed : Yba.prog.follows .mixedOrders = true := by kernel_rfl

theorem wpStill_want {P : Program} {ops : Array Oper} {w : World} {Q : Act → Prop} {a : Act} {o : Oper} {rest : List Oper} (hw : Region.wanted o (yielded ops a.tmps) = true)
    (h : ∀ K : Act → Prop, (∀ a, wpStill P ops w Q rest a → K a) → o.still P a w K) : wpStill P ops w Q (o :: rest) a := by
  unfold wpStill
  rw [if_pos hw]
  exact h _ (fun _ h => h)
theorem wpStill_skip {P : Program} {ops : Array Oper} {w : World} {Q : Act → Prop} {a : Act} {o : Oper} {rest : List Oper} (hw : Region.wanted o (yielded ops a.tmps) = false)
    (h : wpStill P ops w Q rest (a.put o.dst undef)) : wpStill P ops w Q (o :: rest) a := by
  unfold wpStill
  rw [if_neg (by rw [hw]; simp)]
  exact h
theorem wpList_want {P : Program} {ops : Array Oper} {w : World} {Q : Exit → Act → World → Prop} {a : Act} {o : Oper} {rest : List Oper} (hw : Region.wanted o (yielded ops a.tmps) = true)
    (h : ∀ K : Act → World → Prop, (∀ a w, wpList P ops Q rest a w → K a w) → o.wp P a w K Q) : wpList P ops Q (o :: rest) a w := by
  unfold wpList
  rw [if_pos hw]
  exact .inl (h _ (fun _ _ h => h))
theorem wpList_skip {P : Program} {ops : Array Oper} {w : World} {Q : Exit → Act → World → Prop} {a : Act} {o : Oper} {rest : List Oper} (hw : Region.wanted o (yielded ops a.tmps) = false)
    (h : wpList P ops Q rest (a.put o.dst undef) w) : wpList P ops Q (o :: rest) a w := by
  unfold wpList
  rw [if_neg (by rw [hw]; simp)]
  exact h
theorem region_tail2 {id : Nat} {Q : Exit → Act → World → Prop} {a : Act} {w : World} {l : List Oper} (n : Nat) (hB : Region.lexTailB .any l.toArray n = true)
    (h : ∀ K : Act → Prop, (∀ a, wpList Yba.prog l.toArray Q (l.drop n) a w.drew → K a) → wpStill Yba.prog l.toArray w.drew K (l.take n) a) : (Code.region id l.toArray true).wp Yba.prog Q a w :=
  wp_region_still_tail n cmixed hB (h _ (fun _ h => h))

/-- An append whose run is known. -/
theorem wpList_append_run {ops : Array Oper} {rest : List Oper} {o : Oper} {a : Act} {w w' : World} {Q : Exit → Act → World → Prop} {v y v' : Value} (t : TypeId) (hr : (Builtin.append_ #[t, t] t #[v, y]).run Yba.prog w = .ok v' w')
    (hgd : o.guard = none) (s x : Operand) (ho : o.op = .call { callee := .builtin .append, args := #[s, x], argTypes := #[t, t] }) (hty : o.type = t) (hs : a.eval s = v) (hx : a.eval x = y)
    (h : wpList Yba.prog ops Q rest (a.put o.dst v') w') : wpList Yba.prog ops Q (o :: rest) a w := by
  refine wpList_plain hgd fun K hK => ?_
  unfold Oper.wp execOp
  simp only [ho, hty, resolve, invoke, builtin, Sem.run_bind, Sem.run_pure, Result.andThen_ok, List.map_toArray, List.map_cons, List.map_nil, hs, hx, hr]
  exact hK _ _ h

section
variable {P : Program}
/-- copy into the row g from cell o on. -/
theorem run_copy_gen (w : World) (dT sT ty elem : TypeId) (g o dLen dCap m sLen sCap size : Nat) (ad : Addr) (cur : Array Value) (t : TypeId) (cs : List Value)
    (hu : P.underlying dT = some (.slice elem)) (hs : (P.info? elem).map (·.size) = some size) (hm : Nat.min sLen dLen = m)
    (hg : w.heap[g]? = some (.cells cur t (0, 0))) (hn : cs.length = m * size) (hfit : o + cs.length ≤ cur.size)
    (hsrc : ∀ j v, cs[j]? = some v → w.cell? (ad.add j) = some v) (h1 : ∀ v ∈ cs, v.oneCell' = true) :
    (Builtin.copy_ #[dT, sT] ty #[.slice (some ⟨g, o, none⟩) dLen dCap, .slice (some ad) sLen sCap]).run P w = .ok (goInt m) (w.setRow g (cur.toList.take o ++ cs ++ cur.toList.drop (o + cs.length)).toArray) := by
  cases hq : P.info? elem with
  | none => simp [hq] at hs
  | some i =>
    have hi : i.size = size := by simpa [hq] using hs
    have hst := run_storeCells_at P g o t cs 0 cur w hg (by simpa using hfit) h1
    have hl := run_loadCells_list (P := P) w ad cs hsrc
    rw [hn] at hl
    simp only [Nat.add_zero] at hst
    simp [Builtin.copy_, run_underlying hu, Builtin.lenOf, Builtin.firstCells, sizeOf, typeInfo, hq, hi, hm, hl, hst]
end

/-- A copy whose run is known. -/
theorem wpList_copy_run {ops : Array Oper} {rest : List Oper} {o : Oper} {a : Act} {w w' : World} {Q : Exit → Act → World → Prop} {v y v' : Value} (t ty : TypeId) (hr : (Builtin.copy_ #[t, t] ty #[v, y]).run Yba.prog w = .ok v' w')
    (hgd : o.guard = none) (s x : Operand) (ho : o.op = .call { callee := .builtin .copy, args := #[s, x], argTypes := #[t, t] }) (hty : o.type = ty) (hs : a.eval s = v) (hx : a.eval x = y)
    (h : wpList Yba.prog ops Q rest (a.put o.dst v') w') : wpList Yba.prog ops Q (o :: rest) a w := by
  refine wpList_plain hgd fun K hK => ?_
  unfold Oper.wp execOp
  simp only [ho, hty, resolve, invoke, builtin, Sem.run_bind, Sem.run_pure, Result.andThen_ok, List.map_toArray, List.map_cons, List.map_nil, hs, hx, hr]
  exact hK _ _ h

section
variable {α : Type} {E : Enc α} {t : TypeId} {w : World} {B : Nat} {v : Value} {L : List α}
/-- One element appended. -/
theorem Sl.push {T : TypeId} {z : Value} {bytes : Nat} (h : Sl E t w B v L) (hT : Yba.prog.underlying T = some (.slice t)) (hi : (Yba.prog.info? t).map (fun i => (i.zero, i.size, i.bytes)) = some (some z, E.s, bytes)) (hz : z.cells.size = E.s) (hs : 0 < E.s)
    (hB : B ≤ w.heap.size) (hn : L.length < 1000000) (hby : bytes ≤ 1000) (x : α) (ca : Array Value) (hca : ca.toList = E.cs x) :
    ∃ v' w', (Builtin.append_ #[T, T] T #[v, .slice (some ⟨w.heap.size, 0, none⟩) 1 1]).run Yba.prog (w.alloc (.cells ca t)) = .ok v' w' ∧ Sl E t w' B v' (L ++ [x]) ∧ w.grownBy w' v.ownBlock ∧ (v'.ownBlock = v.ownBlock ∨ ∃ g, v'.ownBlock = some g ∧ w.heap.size ≤ g) := by
  cases hj : Yba.prog.info? t with
  | none => simp [hj] at hi
  | some j =>
    simp [hj] at hi
    obtain ⟨h1, h2, h3⟩ := hi
    have hcell : ∀ (i : Nat) u, (E.cs x)[i]? = some u → (w.alloc (.cells ca t)).cell? ((⟨w.heap.size, 0, none⟩ : Addr).add i) = some u := fun i u hu => by
      have hadd : (⟨w.heap.size, 0, none⟩ : Addr).add i = ⟨w.heap.size, i, none⟩ := by unfold Addr.add; split <;> simp_all
      rw [hadd, ← hca] at *
      simp [go_sem]
      simpa using hu
    have hbb : (L.length + 1) * bytes ≤ 1000000 * 1000 := Nat.mul_le_mul (by omega) hby
    obtain ⟨v', w', hr, ho, hg, _, hloc⟩ := run_append_own_at (P := Yba.prog) (w.alloc (.cells ca t)) B T T t j z E.s bytes hT hj h1 h2 h3 hz hs v L.length (E.flat L) (World.ownsRow.alloc h _) ⟨w.heap.size, 0, none⟩ 1 1 (E.cs x) (by rw [E.len]; omega) hcell (E.one x) (by unfold maxLen; omega) (by omega) (by simp; omega)
    refine ⟨v', w', hr, ?_, (World.grownBy_alloc w _ _).trans hg, hloc.imp id (fun h => ⟨_, h, by simp⟩)⟩
    unfold Sl
    rw [flat_append, flat_one, List.length_append]
    exact ho
end

/-- The row put anew. -/
theorem owns_setRow {B s n cap g : Nat} {t : TypeId} {xs : List Value} {w : World} (h : w.ownsRow B t s (.slice (some ⟨g, 0, none⟩) n cap) n xs) {cur' : Array Value} (hsz : ∀ cur, w.heap[g]? = some (.cells cur t (0, 0)) → cur'.size = cur.size) :
    (w.setRow g cur').ownsRow B t s (.slice (some ⟨g, 0, none⟩) n cap) n (cur'.toList.take (n * s)) := by
  rcases h.2 with ⟨h1, _⟩ | ⟨g', cap', cur, h1, hb, hg, hn, hm, hs, ht⟩
  · cases h1
  · cases h1
    have hz := hsz cur hg
    have hle : n * s ≤ cap * s := Nat.mul_le_mul_right _ hn
    refine ⟨by rw [List.length_take]; simp; omega, .inr ⟨g, cap, cur', rfl, hb, ?_, hn, hm, by omega, rfl⟩⟩
    obtain ⟨hlt, hgg⟩ := Array.getElem?_eq_some_iff.1 hg
    simp [World.setRow, hlt, Array.getElem_modify, hgg]

section
variable {α : Type} {E : Enc α} {t : TypeId} {w : World} {B : Nat}
theorem flat_take (M : List α) (k : Nat) : (E.flat M).take (k * E.s) = E.flat (M.take k) := by
  rcases Nat.lt_or_ge k M.length with hk | hk
  · have h1 : E.flat M = E.flat (M.take k) ++ E.flat (M.drop k) := by rw [← flat_append, List.take_append_drop]
    have h2 : (E.flat (M.take k)).length = k * E.s := by rw [flat_len, List.length_take, Nat.min_eq_left (by omega)]
    rw [h1, ← h2, List.take_left]
  · rw [List.take_of_length_le hk, List.take_of_length_le (by rw [flat_len]; exact Nat.mul_le_mul_right _ hk)]
theorem flat_drop (M : List α) (k : Nat) : (E.flat M).drop (k * E.s) = E.flat (M.drop k) := by
  rcases Nat.lt_or_ge k M.length with hk | hk
  · have h1 : E.flat M = E.flat (M.take k) ++ E.flat (M.drop k) := by rw [← flat_append, List.take_append_drop]
    have h2 : (E.flat (M.take k)).length = k * E.s := by rw [flat_len, List.length_take, Nat.min_eq_left (by omega)]
    rw [h1, ← h2, List.drop_left]
  · rw [List.drop_eq_nil_of_le hk, List.drop_eq_nil_of_le (by rw [flat_len]; exact Nat.mul_le_mul_right _ hk)]; rfl

/-- Insert's copy: what follows index i moves up by one. -/
theorem insert_copy {T ty : TypeId} {L : List α} {z : α} {g cap i o dcap scap : Nat} (ho : o = (i + 1) * E.s ∨ (i = L.length ∧ o = 0)) (h : Sl E t w B (.slice (some ⟨g, 0, none⟩) (L.length + 1) cap) (L ++ [z])) (hi : i ≤ L.length) (hT : Yba.prog.underlying T = some (.slice t)) (hsz : (Yba.prog.info? t).map (·.size) = some E.s) :
    ∃ w' y, (Builtin.copy_ #[T, T] ty #[.slice (some ⟨g, o, none⟩) (L.length - i) dcap, .slice (some ⟨g, i * E.s, none⟩) (L.length + 1 - i) scap]).run Yba.prog w = .ok (goInt (L.length - i : Nat)) w' ∧
      Sl E t w' B (.slice (some ⟨g, 0, none⟩) (L.length + 1) cap) (L.take i ++ y :: L.drop i) ∧ w.grownBy w' (some g) := by
  have hlen : (L ++ [z]).length = L.length + 1 := by simp
  have h' : w.ownsRow B t E.s (.slice (some ⟨g, 0, none⟩) (L.length + 1) cap) (L.length + 1) (E.flat (L ++ [z])) := by
    have := h; unfold Sl at this; rwa [hlen] at this
  rcases h'.2 with ⟨h1, _⟩ | ⟨g', cap', cur, h1, hb, hg, hn, hm, hs, ht⟩
  · cases h1
  cases h1
  have hcl : (E.flat (L.drop i)).length = (L.length - i) * E.s := by rw [flat_len, List.length_drop]
  have hle : (L.length + 1) * E.s ≤ cap * E.s := Nat.mul_le_mul_right _ hn
  have hsum : (i + 1) * E.s + (L.length - i) * E.s = (L.length + 1) * E.s := by rw [← Nat.add_mul, show i + 1 + (L.length - i) = L.length + 1 by omega]
  have hsum0 : i * E.s + (L.length - i) * E.s = L.length * E.s := by rw [← Nat.add_mul, show i + (L.length - i) = L.length by omega]
  rcases ho with rfl | ⟨rfl, rfl⟩
  rotate_left
  · have hrun := run_copy_gen (P := Yba.prog) w T T ty t g 0 (L.length - L.length) dcap 0 (L.length + 1 - L.length) scap E.s ⟨g, L.length * E.s, none⟩ cur t [] hT hsz (by rw [Nat.sub_self]; exact Nat.min_eq_right (by omega)) hg (by simp) (by simp) (by simp) (by simp)
    have hid : w.setRow g (cur.toList.take 0 ++ [] ++ cur.toList.drop (0 + ([] : List Value).length)).toArray = w := by
      simpa using setRow_self w g cur t (0, 0) hg
    rw [hid] at hrun
    refine ⟨w, z, by rw [Nat.sub_self] at *; exact hrun, ?_, ⟨rfl, rfl, rfl, Nat.le_refl _, fun _ _ _ => rfl⟩⟩
    rw [List.take_length, List.drop_length]
    exact h
  have hrun := run_copy_gen (P := Yba.prog) w T T ty t g ((i + 1) * E.s) (L.length - i) dcap (L.length - i) (L.length + 1 - i) scap E.s ⟨g, i * E.s, none⟩ cur t (E.flat (L.drop i)) hT hsz
    (Nat.min_eq_right (by omega)) hg hcl (by rw [hcl]; omega) (fun j u hu => by
      have hj : j < (L.length - i) * E.s := by
        rcases Nat.lt_or_ge j (E.flat (L.drop i)).length with h | h
        · rw [hcl] at h; exact h
        · rw [List.getElem?_eq_none h] at hu; cases hu
      have hc := h'.cells (g := g) rfl (i * E.s + j) u (by
        rw [flat_append, List.getElem?_append_left (by rw [flat_len]; omega), ← List.getElem?_drop, flat_drop]
        exact hu)
      have e1 : (⟨g, 0, none⟩ : Addr).add (i * E.s + j) = ⟨g, i * E.s + j, none⟩ := by unfold Addr.add; split <;> simp_all
      have e2 : (⟨g, i * E.s, none⟩ : Addr).add j = ⟨g, i * E.s + j, none⟩ := by unfold Addr.add; split <;> simp_all
      rw [e1] at hc
      rw [e2]; exact hc) (fun u hu => by
      simp only [Enc.flat, List.mem_flatMap] at hu
      obtain ⟨a, _, ha⟩ := hu
      exact E.one a u ha)
  have hib : i < (L ++ [z]).length := by rw [hlen]; omega
  refine ⟨_, (L ++ [z])[i], hrun, ?_, ?_⟩
  · have ho := owns_setRow h' (cur' := (cur.toList.take ((i + 1) * E.s) ++ E.flat (L.drop i) ++ cur.toList.drop ((i + 1) * E.s + (E.flat (L.drop i)).length)).toArray) (fun c hc => by
      have e := hg.symm.trans hc
      simp only [Option.some.injEq, Obj.cells.injEq, and_true] at e
      subst e
      generalize hX : (L.length - i) * E.s = X at *
      generalize hY : (i + 1) * E.s = Y at *
      rw [List.size_toArray, List.length_append, List.length_append, List.length_take, List.length_drop, Array.length_toList, hcl]
      omega)
    unfold Sl
    have hll : (L.take i ++ (L ++ [z])[i] :: L.drop i).length = L.length + 1 := by simp; omega
    rw [hll]
    have hfl : E.flat (L.take i ++ (L ++ [z])[i] :: L.drop i) = (cur.toList.take ((i + 1) * E.s) ++ E.flat (L.drop i) ++ cur.toList.drop ((i + 1) * E.s + (E.flat (L.drop i)).length)).toArray.toList.take ((L.length + 1) * E.s) := by
      have e1 : L.take i ++ (L ++ [z])[i] :: L.drop i = (L ++ [z]).take (i + 1) ++ L.drop i := by
        rw [List.take_add_one, List.getElem?_eq_getElem hib, List.take_append_of_le_length hi]
        simp
      have e2 : (cur.toList.take ((i + 1) * E.s)) = E.flat ((L ++ [z]).take (i + 1)) := by
        rw [← flat_take, ← ht, List.take_take, Nat.min_eq_left (Nat.mul_le_mul_right _ (by omega))]
      have e3 : (cur.toList.take ((i + 1) * E.s) ++ E.flat (L.drop i)).length = (L.length + 1) * E.s := by
        rw [List.length_append, hcl, List.length_take, Array.length_toList, Nat.min_eq_left (by omega)]
        omega
      rw [e1, flat_append, ← e2]
      show _ = List.take ((L.length + 1) * E.s) (cur.toList.take ((i + 1) * E.s) ++ E.flat (L.drop i) ++ _)
      rw [← e3, List.take_left]
    rw [hfl]
    exact ho
  · refine ⟨rfl, rfl, rfl, by simp [World.setRow], fun k hk hne => ?_⟩
    have hkg : g ≠ k := fun e => hne (by rw [e])
    simp [World.setRow, Array.getElem?_modify, hkg]
end
end Go.Proofs.Ybulkdkqw.lawS5586AWhole
