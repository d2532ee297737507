import Derived.Test.YbulkdkrkAWalk
import Derived.OpenShut
import Derived.ShutString
import Derived.ChangeOld
import Derived.SizedLaws
import Derived.Deep.Slices
import Derived.Deep.Strs
import Derived.Lib.SmallJoins
namespace Go.Proofs.Ybulkdkrk
open Go.ChangeShapes Go.WideShapes Go.ChangeAt Go.RowKit Go.Deep Go.Joins

section
variable {H : Type} {enc : TypeId × Value → H} {P : Program} {w : World} {base : Nat} {spare : Nat → Bool} {held : Bool}

/-- A slice whose elements take n cells each, opened cell by cell. -/
theorem open_slice_cells {t e : TypeId} {fuel n : Nat} {cs : List Value} {x : DataW H × List MemPlace} (ht : P.underlying t = some (.slice e)) (hc : P.cellsOf e = n) (hn : 0 < n) (h : DataW.trod enc P w base spare held fuel t cs = some x) :
    (cs = [.slice none 0 0] ∧ x = (.nil, [])) ∨
    ∃ (a : Addr) (len cap : Nat) (V : Nat → Value) (D : Nat → DataW H) (sp : List (DataW H)) (m : Nat), cs = [.slice (some a) len cap] ∧ len ≤ cap ∧ cap ≤ maxLen ∧ x.1 = .slice ((List.range len).map D) sp ∧
      (∀ t, t < len * n → w.cell? (a.add t) = some (V t)) ∧ ∀ j, j < len → ∃ pl, DataW.trod enc P w base spare held m e ((List.range n).map fun i => V (j * n + i)) = some (D j, pl) := by
  rcases open_slice ht h with h0 | ⟨a, len, cap, m, f, D, Pl, rfl, hb, hl, hm, hmm, rfl, hx⟩
  · exact .inl h0
  right
  have hlm : len ≤ m := by subst hmm; split <;> omega
  rw [hc] at hx
  obtain ⟨F, hF⟩ := choose_lt (α := List Value) (p := fun i cs' => w.cells? base (a.add (i * n)) n = some cs' ∧ DataW.trod enc P w base spare held f e cs' = some (D i, Pl i)) hx
  have hcell : ∀ i, i < len → (F i).length = n ∧ ∀ t, t < n → w.cell? (a.add (i * n + t)) = (F i)[t]? := fun i hi => by
    obtain ⟨_, h2, h3⟩ := World.cells?_some (hF i (by omega)).1
    refine ⟨h2, fun t ht => ?_⟩
    have := h3 t ht
    rw [← this, add_add]
  refine ⟨a, len, cap, fun t => ((F (t / n))[t % n]?).getD (.bool false), D, _, f, rfl, hl, hm, rfl, fun t ht => ?_, fun j hj => ⟨Pl j, ?_⟩⟩
  · have hi : t / n < len := by rw [Nat.div_lt_iff_lt_mul hn]; exact ht
    have hr : t % n < n := Nat.mod_lt _ hn
    have h1 := (hcell _ hi).2 _ hr
    rw [show t / n * n + t % n = t by rw [Nat.mul_comm]; exact Nat.div_add_mod t n] at h1
    rw [h1]
    have hlt : t % n < (F (t / n)).length := by rw [(hcell _ hi).1]; exact hr
    simp [hlt]
  · rw [← (hF j (by omega)).2]
    congr 1
    have hlen := (hcell j hj).1
    apply List.ext_getElem?
    intro i
    by_cases hi : i < n
    · have e1 : (j * n + i) / n = j := by rw [Nat.mul_comm, Nat.mul_add_div hn, Nat.div_eq_of_lt hi]; rfl
      have e2 : (j * n + i) % n = i := by rw [Nat.mul_comm, Nat.mul_add_mod, Nat.mod_eq_of_lt hi]
      have hlt : i < (F j).length := by rw [hlen]; exact hi
      rw [List.getElem?_map, List.getElem?_range hi, Option.map_some]
      show some ((F ((j * n + i) / n))[(j * n + i) % n]?.getD (.bool false)) = _
      rw [e1, e2, List.getElem?_eq_getElem hlt, Option.getD_some]
    · simp [hi, hlen]

/-- A struct by value: each field's own reading. -/
theorem open_fields {r : Reach} {b0 : Nat} {t : TypeId} {fs : Array Field} {v : Value} {d : DataW H} {p : List MemPlace} (hs : P.underlying t = some (.struct fs)) (hC : P.cellsOf t = fs.size)
    (hone : ∀ (i : Nat) (f : Field), fs[i]? = some f → f.offset = i ∧ P.cellsOf f.type = 1) (hv : Value.okWide P w r b0 t v) (h : DataW.Trod enc P w base spare held t v d p) :
    ∃ (cs : Array Value) (n : Nat), v = .agg cs ∧ cs.size = fs.size ∧ ∀ (i : Nat) (f : Field) (c : Value), fs[i]? = some f → cs[i]? = some c → ∃ y, DataW.trod enc P w base spare held n f.type [c] = some y := by
  obtain ⟨cs, rfl, hsz⟩ := okWide_struct hs hv
  obtain ⟨fuel, hf⟩ := h
  obtain ⟨xs, n, _, _, _, hlen, hall⟩ := DataW.trod_struct hs hf
  refine ⟨cs, n, rfl, hsz.trans hC, fun i f c hfi hci => ?_⟩
  obtain ⟨o, k⟩ := hone i f hfi
  have h1 := hall i f hfi
  have hi : i < xs.length := by rw [hlen]; exact (Array.getElem?_eq_some_iff.1 hfi).1
  rw [List.getElem?_eq_getElem hi, o, k] at h1
  obtain ⟨hlt, hget⟩ := Array.getElem?_eq_some_iff.1 hci
  have e : ((Value.agg cs).cells.toList.drop i).take 1 = [c] := by
    simp only [Value.cells]
    rw [List.drop_eq_getElem_cons (by simpa using hlt)]
    simp [hget]
  rw [e] at h1
  exact ⟨_, h1⟩
end

namespace lawS5587AWhole
theorem cells44 : Yba.prog.cellsOf 44 = 3 := by kernel_rfl
theorem cells5 : Yba.prog.cellsOf 5 = 1 := by kernel_rfl
theorem cells23 : Yba.prog.cellsOf 23 = 1 := by kernel_rfl
theorem cells3 : Yba.prog.cellsOf 3 = 1 := by kernel_rfl

section
variable {H : Type} {enc : TypeId × Value → H} {w : World}

theorem bd8 {x : Int} (h : (Lit.int .u8 x).wf = true) : 0 ≤ x ∧ x ≤ 255 := by
  simp [Lit.wf, IntKind.min, IntKind.max, IntKind.signed, IntKind.bits] at h; omega
theorem bd16 {x : Int} (h : (Lit.int .u16 x).wf = true) : 0 ≤ x ∧ x ≤ 65535 := by
  simp [Lit.wf, IntKind.min, IntKind.max, IntKind.signed, IntKind.bits] at h; omega
theorem bd64 {x : Int} (h : (Lit.int .u64 x).wf = true) : 0 ≤ x ∧ x ≤ 18446744073709551615 := by
  simp [Lit.wf, IntKind.min, IntKind.max, IntKind.signed, IntKind.bits] at h; omega

/-- A slice of entries. -/
theorem open_ents {fuel : Nat} {ao : Option Addr} {len cap : Nat} {x : DataW H × List MemPlace} (h : DataW.trod enc Yba.prog w 0 (fun _ => true) true fuel 22 [.slice ao len cap] = some x) :
    ∃ b off G S L, Ents w ao len b off G S L := by
  rcases open_slice_cells Yba.underlying22 cells44 (by omega) h with ⟨hcs, hx⟩ | ⟨a, len', cap', V, D, sp, m, hcs, hl, hm, hx, hcell, hel⟩
  · simp at hcs
    obtain ⟨rfl, rfl, rfl⟩ := hcs
    exact ⟨0, 0, fun _ => 0, fun _ => 0, fun _ => 0, fun h => absurd h (Nat.lt_irrefl 0), fun h => absurd h (Nat.lt_irrefl 0), fun i h => absurd h (Nat.not_lt_zero _), fun i h => absurd h (Nat.not_lt_zero _), fun i h => absurd h (Nat.not_lt_zero _), fun i h => absurd h (Nat.not_lt_zero _), fun i h => absurd h (Nat.not_lt_zero _)⟩
  · simp only [List.cons.injEq, and_true, Value.slice.injEq] at hcs
    obtain ⟨rfl, rfl, rfl⟩ := hcs
    obtain ⟨b, off, spot⟩ := a
    have hspot : 0 < len → spot = none := fun h0 => by simpa [Addr.add] using World.cell?_spot (hcell 0 (by omega))
    have hcell' : ∀ t, t < len * 3 → w.cell? ⟨b, off + t, none⟩ = some (V t) := fun t ht => by
      have := hspot (by omega)
      subst this
      rw [← add_plain]; exact hcell t ht
    have each : ∀ j, j < len → ∃ y : Int × Int × Int, V (j * 3) = .int .u8 y.1 ∧ V (j * 3 + 1) = .int .u64 y.2.1 ∧ V (j * 3 + 2) = .int .i64 y.2.2 ∧ (0 ≤ y.1 ∧ y.1 ≤ 255) ∧ (0 ≤ y.2.1 ∧ y.2.1 ≤ 18446744073709551615) := by
      intro j hj
      obtain ⟨pl, hpl⟩ := hel j hj
      obtain ⟨y0, y1, y2, n, _, _, t0, t1, t2⟩ := trod_struct3 Yba.underlying44 hpl
      simp only [cells5, cells23, cells3] at t0 t1 t2
      obtain ⟨x0, e0, _, w0⟩ := DataW.trod_int Yba.underlying5 t0
      obtain ⟨x1, e1, _, w1⟩ := DataW.trod_int Yba.underlying23 t1
      obtain ⟨x2, e2, _, _⟩ := DataW.trod_int Yba.underlying3 t2
      simp [List.range_succ] at e0 e1 e2
      exact ⟨(x0, x1, x2), e0, e1, e2, bd8 w0, bd64 w1⟩
    obtain ⟨y, hy⟩ := choose_lt (α := Int × Int × Int) each
    refine ⟨b, off, fun i => (y i).1, fun i => (y i).2.1, fun i => (y i).2.2, fun h0 => by rw [hspot h0], fun h0 => ?_, fun i hi => ?_, fun i hi => ?_, fun i hi => ?_, fun i hi => (hy i hi).2.2.2.1, fun i hi => (hy i hi).2.2.2.2⟩
    · have := hcell' 0 (by omega)
      simp only [World.cell?] at this
      cases hq : w.heap[b]? with
      | none => simp [hq] at this
      | some o => exact (Array.getElem?_eq_some_iff.1 hq).1
    · rw [hcell' _ (by omega), (hy i hi).1]
    · rw [Nat.add_assoc, hcell' _ (by omega), (hy i hi).2.1]
    · rw [Nat.add_assoc, hcell' _ (by omega), (hy i hi).2.2.1]

set_option maxRecDepth 100000 in
theorem open25 {r : Reach} {b0 : Nat} {v : Value} {d : DataW H} {p : List MemPlace} (hv : Value.okWide Yba.prog w r b0 25 v) (h : DataW.Trod enc Yba.prog w 0 (fun _ => true) true 25 v d p) :
    ∃ (a b c : Int) (k : Bool), v = .agg #[.int .i64 a, .int .u64 b, .int .u64 c, .bool k] := by
  obtain ⟨v0, v1, v2, v3, y0, y1, y2, y3, n, rfl, _, _, h0, h1, h2, h3⟩ := open_agg4 Yba.underlying25 (by kernel_rfl) (by kernel_rfl) hv h
  obtain ⟨a, e0, _, _⟩ := DataW.trod_int Yba.underlying3 h0
  obtain ⟨b, e1, _, _⟩ := DataW.trod_int Yba.underlying23 h1
  obtain ⟨c, e2, _, _⟩ := DataW.trod_int Yba.underlying23 h2
  obtain ⟨k, e3, _⟩ := DataW.trod_bool Yba.underlying4 h3
  simp at e0 e1 e2 e3
  subst e0; subst e1; subst e2; subst e3
  exact ⟨a, b, c, k, rfl⟩

set_option maxRecDepth 100000 in
theorem open28 {r : Reach} {b0 : Nat} {v : Value} {d : DataW H} {p : List MemPlace} (hv : Value.okWide Yba.prog w r b0 28 v) (h : DataW.Trod enc Yba.prog w 0 (fun _ => true) true 28 v d p) :
    ∃ (a b c e : Int) (k : Bool), v = .agg #[.int .u64 a, .int .u16 b, .int .i64 c, .int .u64 e, .bool k] ∧ 0 ≤ b ∧ b ≤ 65535 := by
  obtain ⟨cs, n, rfl, hsz, hall⟩ := open_fields Yba.underlying28 (by kernel_rfl) (hone_of (by kernel_rfl)) hv h
  match cs, hsz with
  | ⟨[c0, c1, c2, c3, c4]⟩, _ =>
    obtain ⟨_, h0⟩ := hall 0 _ c0 rfl rfl
    obtain ⟨_, h1⟩ := hall 1 _ c1 rfl rfl
    obtain ⟨_, h2⟩ := hall 2 _ c2 rfl rfl
    obtain ⟨_, h3⟩ := hall 3 _ c3 rfl rfl
    obtain ⟨_, h4⟩ := hall 4 _ c4 rfl rfl
    obtain ⟨a, e0, _, _⟩ := DataW.trod_int Yba.underlying23 h0
    obtain ⟨b, e1, _, wb⟩ := DataW.trod_int Yba.underlying26 h1
    obtain ⟨c, e2, _, _⟩ := DataW.trod_int Yba.underlying3 h2
    obtain ⟨e, e3, _, _⟩ := DataW.trod_int Yba.underlying23 h3
    obtain ⟨k, e4, _⟩ := DataW.trod_bool Yba.underlying4 h4
    simp at e0 e1 e2 e3 e4
    subst e0; subst e1; subst e2; subst e3; subst e4
    exact ⟨a, b, c, e, k, rfl, bd16 wb⟩
end
end lawS5587AWhole
end Go.Proofs.Ybulkdkrk
