import Derived.Test.YbulkdkrkCHold
namespace Go.Proofs.Ybulkdkrk.lawS5587CWhole
open Go.ChangeShapes Go.WideShapes Go.ChangeAt Go.RowKit Go.Proofs.Ybulkdkrk.lawS5587AWhole

/-- One held node offered: not the node's own, not held twice, no more than l. -/
def step (ID : Nat → Int) (X : Int) (l : Nat) (out : List H) (h : H) : List H :=
  if ID h.c = X ∨ out.any (fun g => ID g.c == ID h.c) = true ∨ l ≤ out.length then out else out ++ [h]

def dedup (ID : Nat → Int) (X : Int) (l : Nat) (hs : List H) : List H := hs.foldl (step ID X l) []

theorem fold_full {ID : Nat → Int} {X : Int} {l : Nat} : ∀ (hs out : List H), l ≤ out.length → hs.foldl (step ID X l) out = out
  | [], _, _ => rfl
  | h :: hs, out, hl => by
    rw [List.foldl_cons, show step ID X l out h = out by unfold step; rw [if_pos (.inr (.inr hl))]]
    exact fold_full hs out hl

theorem fold_take_succ {ID : Nat → Int} {X : Int} {l : Nat} {hs : List H} {k : Nat} {h : H} (e : hs[k]? = some h) :
    (hs.take (k + 1)).foldl (step ID X l) [] = step ID X l ((hs.take k).foldl (step ID X l) []) h := by
  rw [List.take_add_one, e]
  simp [List.foldl_append]

theorem step_sub {ID : Nat → Int} {X : Int} {l : Nat} {out : List H} {h x : H} (hx : x ∈ step ID X l out h) : x ∈ out ∨ x = h := by
  unfold step at hx
  split at hx
  · exact .inl hx
  · simpa using hx

theorem fold_sub {ID : Nat → Int} {X : Int} {l : Nat} : ∀ (hs out : List H) (x : H), x ∈ hs.foldl (step ID X l) out → x ∈ out ∨ x ∈ hs
  | [], _, _, hx => .inl hx
  | h :: hs, out, x, hx => by
    rw [List.foldl_cons] at hx
    rcases fold_sub hs _ x hx with h1 | h1
    · rcases step_sub h1 with h2 | rfl
      · exact .inl h2
      · exact .inr (by simp)
    · exact .inr (by simp [h1])

theorem dedup_sub {ID : Nat → Int} {X : Int} {l : Nat} {hs : List H} {k : Nat} : ∀ x ∈ (hs.take k).foldl (step ID X l) [], x ∈ hs := fun x hx => by
  rcases fold_sub _ _ x hx with h | h
  · simp at h
  · exact List.mem_of_mem_take h

theorem step_len {ID : Nat → Int} {X : Int} {l : Nat} {out : List H} {h : H} : (step ID X l out h).length ≤ out.length + 1 := by
  unfold step
  split <;> simp

theorem fold_len {ID : Nat → Int} {X : Int} {l : Nat} : ∀ (hs out : List H), (hs.foldl (step ID X l) out).length ≤ out.length + hs.length
  | [], _ => by simp
  | h :: hs, out => by
    rw [List.foldl_cons]
    have := fold_len (ID := ID) (X := X) (l := l) hs (step ID X l out h)
    have := step_len (ID := ID) (X := X) (l := l) (out := out) (h := h)
    simp only [List.length_cons]
    omega

theorem fold_take_len {ID : Nat → Int} {X : Int} {l : Nat} {hs : List H} {k : Nat} : ((hs.take k).foldl (step ID X l) []).length ≤ k := by
  have := fold_len (ID := ID) (X := X) (l := l) (hs.take k) []
  simp at this
  omega

theorem fold_le {ID : Nat → Int} {X : Int} {l : Nat} : ∀ (hs out : List H), out.length ≤ l → (hs.foldl (step ID X l) out).length ≤ l
  | [], _, h => h
  | h :: hs, out, hl => by
    rw [List.foldl_cons]
    refine fold_le hs _ ?_
    unfold step
    split
    · exact hl
    · next hn =>
      have : ¬ l ≤ out.length := fun h => hn (.inr (.inr h))
      simp; omega

/-- Broken off early: nothing more would have come. -/
theorem dedup_full {ID : Nat → Int} {X : Int} {l : Nat} {hs : List H} {k : Nat} (hl : l ≤ ((hs.take k).foldl (step ID X l) []).length) : (hs.take k).foldl (step ID X l) [] = dedup ID X l hs := by
  have h : hs.foldl (step ID X l) [] = (hs.drop k).foldl (step ID X l) ((hs.take k).foldl (step ID X l) []) := by
    rw [← List.foldl_append, List.take_append_drop]
  rw [dedup, h, fold_full _ _ hl]

theorem any_true {ID : Nat → Int} {out : List H} {h g : H} {k : Nat} (hg : out[k]? = some g) (e : (ID g.c == ID h.c) = true) : out.any (fun g => ID g.c == ID h.c) = true :=
  List.any_eq_true.2 ⟨g, List.mem_of_getElem? hg, e⟩
theorem any_false {ID : Nat → Int} {out : List H} {h : H} (hn : ∀ i x, i < out.length → out[i]? = some x → (ID x.c == ID h.c) = false) : out.any (fun g => ID g.c == ID h.c) = false := by
  rw [List.any_eq_false]
  intro x hx
  obtain ⟨i, hi, rfl⟩ := List.getElem_of_mem hx
  rw [hn i _ hi (List.getElem?_eq_getElem hi)]
  simp
theorem any_comm (ID : Nat → Int) (out : List H) (h : H) : out.any (fun g => ID h.c == ID g.c) = out.any (fun g => ID g.c == ID h.c) := by
  congr 1
  funext g
  by_cases e : ID h.c = ID g.c
  · rw [e]
  · rw [beq_eq_false_iff_ne.2 e, beq_eq_false_iff_ne.2 (fun h => e h.symm)]

/-! append of one entry -/

theorem info64 : (Yba.prog.info? 64).map (fun i => (i.zero, i.size, i.bytes)) = some (some (.agg #[.int .i64 0, .pointer none, .int .i64 0]), 3, 24) := by kernel_rfl

theorem grown_below {w w' : World} {B : Nat} {r : Option Nat} (h : w.grownBy w' r) (hr : ∀ k, r = some k → B ≤ k) (hB : B ≤ w.heap.size) : Below B w w' :=
  ⟨h.os, h.tape, h.output, h.size, fun k hk => h.block k (by omega) (fun e => by have := hr k e.symm; omega)⟩

theorem app1 (w : World) (v : Value) (L : List H) (B : Nat) (x : H) (hL : Hs w B v L) (hB : B ≤ w.heap.size) (hn : L.length ≤ 65536) :
    ∃ v' w', (Builtin.append_ #[61, 61] 61 #[v, .slice (some ⟨w.heap.size, 0, none⟩) 1 1]).run Yba.prog (w.alloc (.cells #[.int .i64 x.node, .pointer (some ⟨x.c, 0, none⟩), .int .i64 x.links] 64)) = .ok v' w' ∧
      Hs w' B v' (L ++ [x]) ∧ Below B w w' := by
  cases hj : Yba.prog.info? 64 with
  | none => have := info64; simp [hj] at this
  | some j =>
    have hi := info64
    simp [hj] at hi
    obtain ⟨hz, hs, hby⟩ := hi
    have hb : Below B w (w.alloc (.cells #[.int .i64 x.node, .pointer (some ⟨x.c, 0, none⟩), .int .i64 x.links] 64)) := (Below.refl _ _).alloc hB _
    have hL1 := hL.later (w' := w.alloc (.cells #[.int .i64 x.node, .pointer (some ⟨x.c, 0, none⟩), .int .i64 x.links] 64)) ((Below.refl _ _).alloc (Nat.le_refl _) _)
    obtain ⟨v', w', hr, ho, hg, _⟩ := run_append_own (P := Yba.prog) _ B 61 61 64 j _ 3 24 Yba.underlying61 hj hz hs hby rfl (by decide) v L.length (flat L) hL1.owns ⟨w.heap.size, 0, none⟩ 1 1 x.cs rfl (by
        intro i u hu
        rcases i with _ | _ | _ | i <;> simp [H.cs] at hu <;> subst hu <;> simp [go_sem])
      (fun u hu => by simp [H.cs] at hu; rcases hu with rfl | rfl | rfl <;> rfl) (by unfold maxLen; omega) (by omega) (by simp; omega)
    refine ⟨v', w', hr, ?_, hb.trans (grown_below hg (fun k hk => (hL1.owns.lt k hk).1) (by simp; omega))⟩
    refine Hs.of_owns (L := L ++ [x]) ?_
    rw [flat_append]
    simpa [flat] using ho

/-- An append whose run is known. -/
theorem wpList_append_run {ops : Array Oper} {rest : List Oper} {o : Oper} {a : Act} {w w' : World} {Q : Exit → Act → World → Prop} {v y v' : Value} (t : TypeId) (hr : (Builtin.append_ #[t, t] t #[v, y]).run Yba.prog w = .ok v' w')
    (hgd : o.guard = none) (s x : Operand) (ho : o.op = .call { callee := .builtin .append, args := #[s, x], argTypes := #[t, t] }) (hty : o.type = t) (hs : a.eval s = v) (hx : a.eval x = y)
    (h : wpList Yba.prog ops Q rest (a.put o.dst v') w') : wpList Yba.prog ops Q (o :: rest) a w := by
  refine wpList_plain hgd fun K hK => ?_
  unfold Oper.wp execOp
  simp only [ho, hty, resolve, invoke, builtin, Sem.run_bind, Sem.run_pure, Result.andThen_ok, List.map_toArray, List.map_cons, List.map_nil, hs, hx, hr]
  exact hK _ _ h
end Go.Proofs.Ybulkdkrk.lawS5587CWhole
