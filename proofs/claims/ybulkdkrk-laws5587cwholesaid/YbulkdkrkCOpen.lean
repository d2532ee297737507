import Derived.Test.YbulkdkrkCWalk
import Derived.OpenShut
import Derived.ShutString
import Derived.ChangeOld
import Derived.SizedLaws
import Derived.Deep.Slices
import Derived.Deep.Strs
import Derived.Lib.SmallJoins
namespace Go.Proofs.Ybulkdkrk
open Go.ChangeShapes Go.WideShapes Go.ChangeAt Go.RowKit Go.Deep Go.Joins

section
variable {H : Type} {enc : TypeId × Value → H} {P : Program} {w : World} {base : Nat} {spare : Nat → Bool} {held : Bool}
/-- A slice whose elements take n cells each, opened cell by cell. -/
theorem open_slice_cells {t e : TypeId} {fuel n : Nat} {cs : List Value} {x : DataW H × List MemPlace} (ht : P.underlying t = some (.slice e)) (hc : P.cellsOf e = n) (hn : 0 < n) (h : DataW.trod enc P w base spare held fuel t cs = some x) :
    (cs = [.slice none 0 0] ∧ x = (.nil, [])) ∨
    ∃ (a : Addr) (len cap : Nat) (V : Nat → Value) (D : Nat → DataW H) (sp : List (DataW H)) (m : Nat), cs = [.slice (some a) len cap] ∧ len ≤ cap ∧ cap ≤ maxLen ∧ x.1 = .slice ((List.range len).map D) sp ∧
      (∀ t, t < len * n → w.cell? (a.add t) = some (V t)) ∧ ∀ j, j < len → ∃ pl, DataW.trod enc P w base spare held m e ((List.range n).map fun i => V (j * n + i)) = some (D j, pl) := by
  rcases open_slice ht h with h0 | ⟨a, len, cap, m, f, D, Pl, rfl, hb, hl, hm, hmm, rfl, hx⟩
  · exact .inl h0
  right
  have hlm : len ≤ m := by subst hmm; split <;> omega
  rw [hc] at hx
  obtain ⟨F, hF⟩ := choose_lt (α := List Value) (p := fun i cs' => w.cells? base (a.add (i * n)) n = some cs' ∧ DataW.trod enc P w base spare held f e cs' = some (D i, Pl i)) hx
  have hcell : ∀ i, i < len → (F i).length = n ∧ ∀ t, t < n → w.cell? (a.add (i * n + t)) = (F i)[t]? := fun i hi => by
    obtain ⟨_, h2, h3⟩ := World.cells?_some (hF i (by omega)).1
    refine ⟨h2, fun t ht => ?_⟩
    have := h3 t ht
    rw [← this, add_add]
  refine ⟨a, len, cap, fun t => ((F (t / n))[t % n]?).getD (.bool false), D, _, f, rfl, hl, hm, rfl, fun t ht => ?_, fun j hj => ⟨Pl j, ?_⟩⟩
  · have hi : t / n < len := by rw [Nat.div_lt_iff_lt_mul hn]; exact ht
    have hr : t % n < n := Nat.mod_lt _ hn
    have h1 := (hcell _ hi).2 _ hr
    rw [show t / n * n + t % n = t by rw [Nat.mul_comm]; exact Nat.div_add_mod t n] at h1
    rw [h1]
    have hlt : t % n < (F (t / n)).length := by rw [(hcell _ hi).1]; exact hr
    simp [hlt]
  · rw [← (hF j (by omega)).2]
    congr 1
    have hlen := (hcell j hj).1
    apply List.ext_getElem?
    intro i
    by_cases hi : i < n
    · have e1 : (j * n + i) / n = j := by rw [Nat.mul_comm, Nat.mul_add_div hn, Nat.div_eq_of_lt hi]; rfl
      have e2 : (j * n + i) % n = i := by rw [Nat.mul_comm, Nat.mul_add_mod, Nat.mod_eq_of_lt hi]
      have hlt : i < (F j).length := by rw [hlen]; exact hi
      rw [List.getElem?_map, List.getElem?_range hi, Option.map_some]
      show some ((F ((j * n + i) / n))[(j * n + i) % n]?.getD (.bool false)) = _
      rw [e1, e2, List.getElem?_eq_getElem hlt, Option.getD_some]
    · simp [hi, hlen]

end

namespace lawS5587CWhole
theorem cells50 : Yba.prog.cellsOf 50 = 3 := by kernel_rfl
theorem cells5 : Yba.prog.cellsOf 5 = 1 := by kernel_rfl
theorem cells3 : Yba.prog.cellsOf 3 = 1 := by kernel_rfl

section
variable {H : Type} {enc : TypeId × Value → H} {w : World}

theorem bd8 {x : Int} (h : (Lit.int .u8 x).wf = true) : 0 ≤ x ∧ x ≤ 255 := by
  simp [Lit.wf, IntKind.min, IntKind.max, IntKind.signed, IntKind.bits] at h; omega
theorem bdi64 {x : Int} (h : (Lit.int .i64 x).wf = true) : -9223372036854775808 ≤ x ∧ x ≤ 9223372036854775807 := by
  simp [Lit.wf, IntKind.min, IntKind.max, IntKind.signed, IntKind.bits] at h; omega

/-- A slice of entries. -/
theorem open_src {fuel : Nat} {ao : Option Addr} {len cap : Nat} {x : DataW H × List MemPlace} (h : DataW.trod enc Yba.prog w 0 (fun _ => true) true fuel 51 [.slice ao len cap] = some x) :
    (∃ b off C N K, Src w ao len b off C N K) ∧ (len = 0 ∨ ∃ elems sp, x.1 = .slice elems sp ∧ elems.length = len) := by
  rcases open_slice_cells Yba.underlying51 cells50 (by omega) h with ⟨hcs, hx⟩ | ⟨a, len', cap', V, D, sp, m, hcs, hl, hm, hx, hcell, hel⟩
  · simp at hcs
    obtain ⟨rfl, rfl, rfl⟩ := hcs
    exact ⟨⟨0, 0, fun _ => 0, fun _ => 0, fun _ => 0, fun h => absurd h (Nat.lt_irrefl 0), fun h => absurd h (Nat.lt_irrefl 0), fun i h => absurd h (Nat.not_lt_zero _), fun i h => absurd h (Nat.not_lt_zero _), fun i h => absurd h (Nat.not_lt_zero _), fun i h => absurd h (Nat.not_lt_zero _)⟩, .inl rfl⟩
  · simp only [List.cons.injEq, and_true, Value.slice.injEq] at hcs
    obtain ⟨rfl, rfl, rfl⟩ := hcs
    refine ⟨?_, .inr ⟨_, sp, hx, by simp⟩⟩
    obtain ⟨b, off, spot⟩ := a
    have hspot : 0 < len → spot = none := fun h0 => by simpa [Addr.add] using World.cell?_spot (hcell 0 (by omega))
    have hcell' : ∀ t, t < len * 3 → w.cell? ⟨b, off + t, none⟩ = some (V t) := fun t ht => by
      have := hspot (by omega)
      subst this
      rw [← add_plain]; exact hcell t ht
    have each : ∀ j, j < len → ∃ y : Nat × Int × Int, V (j * 3) = .int .u8 (y.1 : Int) ∧ V (j * 3 + 1) = .int .i64 y.2.1 ∧ V (j * 3 + 2) = .int .i64 y.2.2 ∧ y.1 ≤ 255 := by
      intro j hj
      obtain ⟨pl, hpl⟩ := hel j hj
      obtain ⟨y0, y1, y2, n, _, _, t0, t1, t2⟩ := trod_struct3 Yba.underlying50 hpl
      simp only [cells5, cells3] at t0 t1 t2
      obtain ⟨x0, e0, _, w0⟩ := DataW.trod_int Yba.underlying5 t0
      obtain ⟨x1, e1, _, _⟩ := DataW.trod_int Yba.underlying3 t1
      obtain ⟨x2, e2, _, _⟩ := DataW.trod_int Yba.underlying3 t2
      simp [List.range_succ] at e0 e1 e2
      have hb := bd8 w0
      exact ⟨(x0.toNat, x1, x2), by rw [e0]; congr 1; simp; omega, e1, e2, by simp; omega⟩
    obtain ⟨y, hy⟩ := choose_lt (α := Nat × Int × Int) each
    refine ⟨b, off, fun i => (y i).1, fun i => (y i).2.1, fun i => (y i).2.2, fun h0 => by rw [hspot h0], fun h0 => ?_, fun i hi => ?_, fun i hi => ?_, fun i hi => ?_, fun i hi => (hy i hi).2.2.2⟩
    · exact World.block_lt_of_cell? w ⟨b, off + 0, none⟩ (hcell' 0 (by omega))
    · rw [hcell' _ (by omega), (hy i hi).1]
    · rw [Nat.add_assoc, hcell' _ (by omega), (hy i hi).2.1]
    · rw [Nat.add_assoc, hcell' _ (by omega), (hy i hi).2.2.1]

/-- A slice of bytes. -/
theorem open_bts {fuel : Nat} {ao : Option Addr} {len cap : Nat} {x : DataW H × List MemPlace} (h : DataW.trod enc Yba.prog w 0 (fun _ => true) true fuel 48 [.slice ao len cap] = some x) :
    (∃ b off I, Bts w ao len b off I) ∧ (len = 0 ∨ ∃ elems sp, x.1 = .slice elems sp ∧ elems.length = len) := by
  rcases open_slice_cells Yba.underlying48 cells5 (by omega) h with ⟨hcs, hx⟩ | ⟨a, len', cap', V, D, sp, m, hcs, hl, hm, hx, hcell, hel⟩
  · simp at hcs
    obtain ⟨rfl, rfl, rfl⟩ := hcs
    exact ⟨⟨0, 0, fun _ => 0, fun h => absurd h (Nat.lt_irrefl 0), fun h => absurd h (Nat.lt_irrefl 0), fun i h => absurd h (Nat.not_lt_zero _), fun i h => absurd h (Nat.not_lt_zero _)⟩, .inl rfl⟩
  · simp only [List.cons.injEq, and_true, Value.slice.injEq] at hcs
    obtain ⟨rfl, rfl, rfl⟩ := hcs
    refine ⟨?_, .inr ⟨_, sp, hx, by simp⟩⟩
    obtain ⟨b, off, spot⟩ := a
    have hspot : 0 < len → spot = none := fun h0 => by simpa [Addr.add] using World.cell?_spot (hcell 0 (by omega))
    have hcell' : ∀ t, t < len → w.cell? ⟨b, off + t, none⟩ = some (V t) := fun t ht => by
      have := hspot (by omega)
      subst this
      rw [← add_plain]; exact hcell t (by omega)
    have each : ∀ j, j < len → ∃ y : Nat, V j = .int .u8 (y : Int) ∧ y ≤ 255 := by
      intro j hj
      obtain ⟨pl, hpl⟩ := hel j hj
      simp [List.range_succ] at hpl
      obtain ⟨x0, e0, _, w0⟩ := DataW.trod_int Yba.underlying5 hpl
      simp at e0
      have hb := bd8 w0
      exact ⟨x0.toNat, by rw [e0]; congr 1; simp; omega, by omega⟩
    obtain ⟨y, hy⟩ := choose_lt (α := Nat) each
    refine ⟨b, off, y, fun h0 => by rw [hspot h0], fun h0 => ?_, fun i hi => ?_, fun i hi => (hy i hi).2⟩
    · exact World.block_lt_of_cell? w ⟨b, off + 0, none⟩ (hcell' 0 (by omega))
    · rw [hcell' _ hi, (hy i hi).1]

set_option maxRecDepth 100000 in
theorem open50 {r : Reach} {b0 : Nat} {v : Value} {d : DataW H} {p : List MemPlace} (hv : Value.okWide Yba.prog w r b0 50 v) (h : DataW.Trod enc Yba.prog w 0 (fun _ => true) true 50 v d p) :
    ∃ (a : Nat) (b c : Int), v = .agg #[.int .u8 (a : Int), .int .i64 b, .int .i64 c] ∧ a ≤ 255 := by
  obtain ⟨cs, rfl, hsz⟩ := okWide_struct Yba.underlying50 hv
  rw [cells50] at hsz
  obtain ⟨fuel, hf⟩ := h
  obtain ⟨y0, y1, y2, n, _, _, t0, t1, t2⟩ := trod_struct3 Yba.underlying50 hf
  simp only [cells5, cells3] at t0 t1 t2
  obtain ⟨x0, e0, _, w0⟩ := DataW.trod_int Yba.underlying5 t0
  obtain ⟨x1, e1, _, _⟩ := DataW.trod_int Yba.underlying3 t1
  obtain ⟨x2, e2, _, _⟩ := DataW.trod_int Yba.underlying3 t2
  match cs, hsz with
  | ⟨[c0, c1, c2]⟩, _ =>
    simp [Value.cells] at e0 e1 e2
    subst e0; subst e1; subst e2
    have hb := bd8 w0
    exact ⟨x0.toNat, x1, x2, by congr 1; simp; omega, by omega⟩
end
end lawS5587CWhole
end Go.Proofs.Ybulkdkrk
