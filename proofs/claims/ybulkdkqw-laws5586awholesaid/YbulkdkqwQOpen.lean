import Derived.Test.YbulkdkqwQT8
import Derived.Test.YbulkdkqwQT4
import Derived.OpenShut
import Derived.ShutString
import Derived.ChangeOld
import Derived.SizedLaws
import Derived.Deep.Slices
import Derived.Deep.Strs
import Derived.Lib.SmallJoins
namespace Go.Proofs.Ybulkdkqw
open Go.ChangeShapes Go.WideShapes Go.ChangeAt Go.RowKit Go.Deep Go.Joins

section
variable {H : Type} {enc : TypeId × Value → H} {P : Program} {w : World} {base : Nat} {spare : Nat → Bool} {held : Bool}

/-- A slice whose elements take n cells each, opened cell by cell. -/
theorem open_slice_cells {t e : TypeId} {fuel n : Nat} {cs : List Value} {x : DataW H × List MemPlace} (ht : P.underlying t = some (.slice e)) (hc : P.cellsOf e = n) (hn : 0 < n) (h : DataW.trod enc P w base spare held fuel t cs = some x) :
    (cs = [.slice none 0 0] ∧ x = (.nil, [])) ∨
    ∃ (a : Addr) (len cap : Nat) (V : Nat → Value) (D : Nat → DataW H) (sp : List (DataW H)) (m : Nat), cs = [.slice (some a) len cap] ∧ len ≤ cap ∧ cap ≤ maxLen ∧ x.1 = .slice ((List.range len).map D) sp ∧
      (∀ t, t < len * n → w.cell? (a.add t) = some (V t)) ∧ ∀ j, j < len → ∃ pl, DataW.trod enc P w base spare held m e ((List.range n).map fun i => V (j * n + i)) = some (D j, pl) := by
  rcases open_slice ht h with h0 | ⟨a, len, cap, m, f, D, Pl, rfl, hb, hl, hm, hmm, rfl, hx⟩
  · exact .inl h0
  right
  have hlm : len ≤ m := by subst hmm; split <;> omega
  rw [hc] at hx
  obtain ⟨F, hF⟩ := choose_lt (α := List Value) (p := fun i cs' => w.cells? base (a.add (i * n)) n = some cs' ∧ DataW.trod enc P w base spare held f e cs' = some (D i, Pl i)) hx
  have hcell : ∀ i, i < len → (F i).length = n ∧ ∀ t, t < n → w.cell? (a.add (i * n + t)) = (F i)[t]? := fun i hi => by
    obtain ⟨_, h2, h3⟩ := World.cells?_some (hF i (by omega)).1
    refine ⟨h2, fun t ht => ?_⟩
    have := h3 t ht
    rw [← this, add_add]
  refine ⟨a, len, cap, fun t => ((F (t / n))[t % n]?).getD (.bool false), D, _, f, rfl, hl, hm, rfl, fun t ht => ?_, fun j hj => ⟨Pl j, ?_⟩⟩
  · have hi : t / n < len := by rw [Nat.div_lt_iff_lt_mul hn]; exact ht
    have hr : t % n < n := Nat.mod_lt _ hn
    have h1 := (hcell _ hi).2 _ hr
    rw [show t / n * n + t % n = t by rw [Nat.mul_comm]; exact Nat.div_add_mod t n] at h1
    rw [h1]
    have hlt : t % n < (F (t / n)).length := by rw [(hcell _ hi).1]; exact hr
    simp [hlt]
  · rw [← (hF j (by omega)).2]
    congr 1
    have hlen := (hcell j hj).1
    apply List.ext_getElem?
    intro i
    by_cases hi : i < n
    · have e1 : (j * n + i) / n = j := by rw [Nat.mul_comm, Nat.mul_add_div hn, Nat.div_eq_of_lt hi]; rfl
      have e2 : (j * n + i) % n = i := by rw [Nat.mul_comm, Nat.mul_add_mod, Nat.mod_eq_of_lt hi]
      have hlt : i < (F j).length := by rw [hlen]; exact hi
      rw [List.getElem?_map, List.getElem?_range hi, Option.map_some]
      show some ((F ((j * n + i) / n))[(j * n + i) % n]?.getD (.bool false)) = _
      rw [e1, e2, List.getElem?_eq_getElem hlt, Option.getD_some]
    · simp [hi, hlen]

/-- The cells of a struct of one-cell fields: each field's own reading. -/
theorem trod_fields {t : TypeId} {fs : Array Field} {fuel : Nat} {cs : List Value} {x : DataW H × List MemPlace} (hs : P.underlying t = some (.struct fs))
    (hone : ∀ (i : Nat) (f : Field), fs[i]? = some f → f.offset = i ∧ P.cellsOf f.type = 1) (h : DataW.trod enc P w base spare held fuel t cs = some x) :
    ∃ n, ∀ (i : Nat) (f : Field) (c : Value), fs[i]? = some f → cs[i]? = some c → ∃ y, DataW.trod enc P w base spare held n f.type [c] = some y := by
  obtain ⟨xs, n, _, _, _, hlen, hall⟩ := DataW.trod_struct hs h
  refine ⟨n, fun i f c hfi hci => ?_⟩
  obtain ⟨o, k⟩ := hone i f hfi
  have h1 := hall i f hfi
  have hi : i < xs.length := by rw [hlen]; exact (Array.getElem?_eq_some_iff.1 hfi).1
  rw [List.getElem?_eq_getElem hi, o, k] at h1
  obtain ⟨hlt, hget⟩ := List.getElem?_eq_some_iff.1 hci
  have e : (cs.drop i).take 1 = [c] := by
    rw [List.drop_eq_getElem_cons hlt]
    simp [hget]
  rw [e] at h1
  exact ⟨_, h1⟩
end

namespace lawS5586AWhole
theorem cells22 : Yba.prog.cellsOf 22 = 1 := by kernel_rfl
theorem cells43 : Yba.prog.cellsOf 43 = 2 := by kernel_rfl
theorem cells49 : Yba.prog.cellsOf 49 = 2 := by kernel_rfl
theorem cells53 : Yba.prog.cellsOf 53 = 5 := by kernel_rfl
theorem cells5 : Yba.prog.cellsOf 5 = 1 := by kernel_rfl

theorem bd8 {x : Int} (h : (Lit.int .u8 x).wf = true) : 0 ≤ x ∧ x ≤ 255 := by
  simp [Lit.wf, IntKind.min, IntKind.max, IntKind.signed, IntKind.bits] at h; omega
theorem bd64 {x : Int} (h : (Lit.int .u64 x).wf = true) : U x := by
  simp [Lit.wf, IntKind.min, IntKind.max, IntKind.signed, IntKind.bits] at h; unfold U; omega

/-- What was read cell by cell, as a list. -/
theorem in_of_cells {α : Type} {E : Enc α} {ok : α → Prop} {w : World} {a : Addr} {len : Nat} {V : Nat → Value} (hs : 0 < E.s) (hcell : ∀ t, t < len * E.s → w.cell? (a.add t) = some (V t))
    (each : ∀ j, j < len → ∃ x : α, ok x ∧ ∀ (i : Nat) u, (E.cs x)[i]? = some u → V (j * E.s + i) = u) :
    ∃ L : List α, L.length = len ∧ (∀ x ∈ L, ok x) ∧ In E w w.heap.size (some a) L := by
  rcases Nat.eq_zero_or_pos len with rfl | h0
  · exact ⟨[], rfl, by simp, fun h => absurd h (Nat.lt_irrefl 0)⟩
  haveI : Inhabited α := ⟨Classical.choose (each 0 h0)⟩
  obtain ⟨y, hy⟩ := choose_lt (α := α) each
  obtain ⟨b, off, spot⟩ := a
  have hls : 0 < len * E.s := Nat.mul_pos h0 hs
  have hspot : spot = none := by simpa [Addr.add] using World.cell?_spot (hcell 0 hls)
  subst hspot
  have hcell' : ∀ t, t < len * E.s → w.cell? ⟨b, off + t, none⟩ = some (V t) := fun t ht => by rw [← add_plain]; exact hcell t ht
  refine ⟨(List.range len).map y, by simp, fun x hx => ?_, fun _ => ⟨b, off, rfl, World.block_lt_of_cell? w ⟨b, off + 0, none⟩ (hcell' 0 hls), fun i x hx j u hu => ?_⟩⟩
  · obtain ⟨j, hj, rfl⟩ := List.mem_map.1 hx
    exact (hy j (List.mem_range.1 hj)).1
  · have hil : i < len := by
      rcases Nat.lt_or_ge i len with h | h
      · exact h
      · rw [List.getElem?_eq_none (by simpa using h)] at hx; cases hx
    rw [List.getElem?_map, List.getElem?_range hil] at hx
    simp at hx
    subst hx
    have hjs : j < E.s := by
      rcases Nat.lt_or_ge j E.s with h | h
      · exact h
      · rw [List.getElem?_eq_none (by rw [E.len]; exact h)] at hu; cases hu
    have hlt : i * E.s + j < len * E.s := by
      have : (i + 1) * E.s ≤ len * E.s := Nat.mul_le_mul_right _ hil
      rw [Nat.add_mul] at this
      omega
    rw [hcell' _ hlt, (hy i hil).2 j u hu]

/-- A slice of type 23. -/
theorem open_pls {H : Type} {enc : TypeId × Value → H} {w : World} {fuel : Nat} {ao : Option Addr} {len cap : Nat} {x : DataW H × List MemPlace} (h : DataW.trod enc Yba.prog w 0 (fun _ => true) true fuel 23 [.slice ao len cap] = some x) :
    (∃ L : List (Int × Int), L.length = len ∧ (∀ x ∈ L, U x.1 ∧ 0 ≤ x.2 ∧ x.2 ≤ 255) ∧ In E43 w w.heap.size ao L) ∧ (len = 0 ∨ ∃ elems sp, x.1 = .slice elems sp ∧ elems.length = len) := by
  rcases open_slice_cells Yba.underlying23 cells43 (by omega) h with ⟨hcs, hx⟩ | ⟨a, len', cap', V, D, sp, m, hcs, hl, hm, hx, hcell, hel⟩
  · simp at hcs
    obtain ⟨rfl, rfl, rfl⟩ := hcs
    exact ⟨⟨[], rfl, by simp, fun h => absurd h (Nat.lt_irrefl 0)⟩, .inl rfl⟩
  · simp only [List.cons.injEq, and_true, Value.slice.injEq] at hcs
    obtain ⟨rfl, rfl, rfl⟩ := hcs
    refine ⟨in_of_cells (E := E43) (by decide) hcell (fun j hj => ?_), .inr ⟨_, sp, hx, by simp⟩⟩
    obtain ⟨pl, hpl⟩ := hel j hj
    simp only [List.range_succ, List.range_zero, List.nil_append, List.map_cons, List.map_nil, List.cons_append, Nat.add_zero] at hpl
    obtain ⟨n, hall⟩ := trod_fields Yba.underlying43 (hone_of (by kernel_rfl)) hpl
    obtain ⟨_, h0⟩ := hall 0 _ _ rfl rfl
    obtain ⟨x0, e0, _, w0⟩ := DataW.trod_int Yba.underlying22 h0
    obtain ⟨_, h1⟩ := hall 1 _ _ rfl rfl
    obtain ⟨x1, e1, _, w1⟩ := DataW.trod_int Yba.underlying5 h1
    simp at e0 e1
    refine ⟨⟨x0, x1⟩, ⟨bd64 w0, bd8 w1⟩, fun i u hu => ?_⟩
    have hi : i < 2 := (List.getElem?_eq_some_iff.1 hu).1
    have hi' : i = 0 ∨ i = 1 := by omega
    rcases hi' with rfl | rfl <;> (simp [E43] at hu ⊢; rw [← hu]; assumption)

/-- A slice of type 24. -/
theorem open_unm {H : Type} {enc : TypeId × Value → H} {w : World} {fuel : Nat} {ao : Option Addr} {len cap : Nat} {x : DataW H × List MemPlace} (h : DataW.trod enc Yba.prog w 0 (fun _ => true) true fuel 24 [.slice ao len cap] = some x) :
    (∃ L : List Int, L.length = len ∧ (∀ x ∈ L, U x) ∧ In E64 w w.heap.size ao L) ∧ (len = 0 ∨ ∃ elems sp, x.1 = .slice elems sp ∧ elems.length = len) := by
  rcases open_slice_cells Yba.underlying24 cells22 (by omega) h with ⟨hcs, hx⟩ | ⟨a, len', cap', V, D, sp, m, hcs, hl, hm, hx, hcell, hel⟩
  · simp at hcs
    obtain ⟨rfl, rfl, rfl⟩ := hcs
    exact ⟨⟨[], rfl, by simp, fun h => absurd h (Nat.lt_irrefl 0)⟩, .inl rfl⟩
  · simp only [List.cons.injEq, and_true, Value.slice.injEq] at hcs
    obtain ⟨rfl, rfl, rfl⟩ := hcs
    refine ⟨in_of_cells (E := E64) (by decide) hcell (fun j hj => ?_), .inr ⟨_, sp, hx, by simp⟩⟩
    obtain ⟨pl, hpl⟩ := hel j hj
    simp only [List.range_succ, List.range_zero, List.nil_append, List.map_cons, List.map_nil, Nat.add_zero] at hpl
    obtain ⟨x0, e0, _, w0⟩ := DataW.trod_int Yba.underlying22 hpl
    simp at e0
    refine ⟨x0, bd64 w0, fun i u hu => ?_⟩
    have : i = 0 := by
      have := (List.getElem?_eq_some_iff.1 hu).1
      simp [E64] at this
      exact this
    subst this
    simp [E64] at hu ⊢
    rw [← hu]; exact e0

/-- A slice of type 25. -/
theorem open_prs {H : Type} {enc : TypeId × Value → H} {w : World} {fuel : Nat} {ao : Option Addr} {len cap : Nat} {x : DataW H × List MemPlace} (h : DataW.trod enc Yba.prog w 0 (fun _ => true) true fuel 25 [.slice ao len cap] = some x) :
    (∃ L : List (Int × Int), L.length = len ∧ (∀ x ∈ L, U x.1) ∧ In EP w w.heap.size ao L) ∧ (len = 0 ∨ ∃ elems sp, x.1 = .slice elems sp ∧ elems.length = len) := by
  rcases open_slice_cells Yba.underlying25 cells49 (by omega) h with ⟨hcs, hx⟩ | ⟨a, len', cap', V, D, sp, m, hcs, hl, hm, hx, hcell, hel⟩
  · simp at hcs
    obtain ⟨rfl, rfl, rfl⟩ := hcs
    exact ⟨⟨[], rfl, by simp, fun h => absurd h (Nat.lt_irrefl 0)⟩, .inl rfl⟩
  · simp only [List.cons.injEq, and_true, Value.slice.injEq] at hcs
    obtain ⟨rfl, rfl, rfl⟩ := hcs
    refine ⟨in_of_cells (E := EP) (by decide) hcell (fun j hj => ?_), .inr ⟨_, sp, hx, by simp⟩⟩
    obtain ⟨pl, hpl⟩ := hel j hj
    simp only [List.range_succ, List.range_zero, List.nil_append, List.map_cons, List.map_nil, List.cons_append, Nat.add_zero] at hpl
    obtain ⟨n, hall⟩ := trod_fields Yba.underlying49 (hone_of (by kernel_rfl)) hpl
    obtain ⟨_, h0⟩ := hall 0 _ _ rfl rfl
    obtain ⟨x0, e0, _, w0⟩ := DataW.trod_int Yba.underlying22 h0
    obtain ⟨_, h1⟩ := hall 1 _ _ rfl rfl
    obtain ⟨x1, e1, _, w1⟩ := DataW.trod_int Yba.underlying22 h1
    simp at e0 e1
    refine ⟨⟨x0, x1⟩, bd64 w0, fun i u hu => ?_⟩
    have hi : i < 2 := (List.getElem?_eq_some_iff.1 hu).1
    have hi' : i = 0 ∨ i = 1 := by omega
    rcases hi' with rfl | rfl <;> (simp [EP] at hu ⊢; rw [← hu]; assumption)

/-- A slice of type 26. -/
theorem open_evs {H : Type} {enc : TypeId × Value → H} {w : World} {fuel : Nat} {ao : Option Addr} {len cap : Nat} {x : DataW H × List MemPlace} (h : DataW.trod enc Yba.prog w 0 (fun _ => true) true fuel 26 [.slice ao len cap] = some x) :
    (∃ L : List Ev, L.length = len ∧ (∀ x ∈ L, x.ok) ∧ In E53 w w.heap.size ao L) ∧ (len = 0 ∨ ∃ elems sp, x.1 = .slice elems sp ∧ elems.length = len) := by
  rcases open_slice_cells Yba.underlying26 cells53 (by omega) h with ⟨hcs, hx⟩ | ⟨a, len', cap', V, D, sp, m, hcs, hl, hm, hx, hcell, hel⟩
  · simp at hcs
    obtain ⟨rfl, rfl, rfl⟩ := hcs
    exact ⟨⟨[], rfl, by simp, fun h => absurd h (Nat.lt_irrefl 0)⟩, .inl rfl⟩
  · simp only [List.cons.injEq, and_true, Value.slice.injEq] at hcs
    obtain ⟨rfl, rfl, rfl⟩ := hcs
    refine ⟨in_of_cells (E := E53) (by decide) hcell (fun j hj => ?_), .inr ⟨_, sp, hx, by simp⟩⟩
    obtain ⟨pl, hpl⟩ := hel j hj
    simp only [List.range_succ, List.range_zero, List.nil_append, List.map_cons, List.map_nil, List.cons_append, Nat.add_zero] at hpl
    obtain ⟨n, hall⟩ := trod_fields Yba.underlying53 (hone_of (by kernel_rfl)) hpl
    obtain ⟨_, h0⟩ := hall 0 _ _ rfl rfl
    obtain ⟨x0, e0, _, w0⟩ := DataW.trod_int Yba.underlying5 h0
    obtain ⟨_, h1⟩ := hall 1 _ _ rfl rfl
    obtain ⟨x1, e1, _, w1⟩ := DataW.trod_int Yba.underlying22 h1
    obtain ⟨_, h2⟩ := hall 2 _ _ rfl rfl
    obtain ⟨x2, e2, _, w2⟩ := DataW.trod_int Yba.underlying22 h2
    obtain ⟨_, h3⟩ := hall 3 _ _ rfl rfl
    obtain ⟨x3, e3, _, w3⟩ := DataW.trod_int Yba.underlying22 h3
    obtain ⟨_, h4⟩ := hall 4 _ _ rfl rfl
    obtain ⟨x4, e4, _, w4⟩ := DataW.trod_int Yba.underlying22 h4
    simp at e0 e1 e2 e3 e4
    refine ⟨⟨x0, x1, x2, x3, x4⟩, ⟨bd8 w0, bd64 w1, bd64 w2, bd64 w3, bd64 w4⟩, fun i u hu => ?_⟩
    have hi : i < 5 := (List.getElem?_eq_some_iff.1 hu).1
    have hi' : i = 0 ∨ i = 1 ∨ i = 2 ∨ i = 3 ∨ i = 4 := by omega
    rcases hi' with rfl | rfl | rfl | rfl | rfl <;> (simp [E53] at hu ⊢; rw [← hu]; assumption)
end lawS5586AWhole
end Go.Proofs.Ybulkdkqw
