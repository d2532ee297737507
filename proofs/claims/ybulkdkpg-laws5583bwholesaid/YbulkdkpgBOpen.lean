import Derived.Test.YbulkdkpgBWalk
import Derived.OpenShut
import Derived.ShutString
import Derived.ChangeOld
import Derived.SizedLaws
import Derived.Deep.Slices
import Derived.Deep.Strs
namespace Go.Proofs.Ybulkdkpg.lawS5583BWhole
open Go.ChangeShapes Go.WideShapes Go.ChangeAt Go.RowKit Go.Deep

section
variable {H : Type} {enc : TypeId × Value → H} {P : Program} {w : World} {base : Nat} {spare : Nat → Bool} {held : Bool}

/-- A slice whose elements take n cells each, opened cell by cell. -/
theorem open_slice_cells {t e : TypeId} {fuel n : Nat} {cs : List Value} {x : DataW H × List MemPlace} (ht : P.underlying t = some (.slice e)) (hc : P.cellsOf e = n) (hn : 0 < n) (h : DataW.trod enc P w base spare held fuel t cs = some x) :
    (cs = [.slice none 0 0] ∧ x = (.nil, [])) ∨
    ∃ (a : Addr) (len cap : Nat) (V : Nat → Value) (D : Nat → DataW H) (sp : List (DataW H)) (m : Nat), cs = [.slice (some a) len cap] ∧ len ≤ cap ∧ cap ≤ maxLen ∧ x.1 = .slice ((List.range len).map D) sp ∧
      (∀ t, t < len * n → w.cell? (a.add t) = some (V t)) ∧ ∀ j, j < len → ∃ pl, DataW.trod enc P w base spare held m e ((List.range n).map fun i => V (j * n + i)) = some (D j, pl) := by
  rcases open_slice ht h with h0 | ⟨a, len, cap, m, f, D, Pl, rfl, hb, hl, hm, hmm, rfl, hx⟩
  · exact .inl h0
  right
  have hlm : len ≤ m := by subst hmm; split <;> omega
  rw [hc] at hx
  obtain ⟨F, hF⟩ := choose_lt (α := List Value) (p := fun i cs' => w.cells? base (a.add (i * n)) n = some cs' ∧ DataW.trod enc P w base spare held f e cs' = some (D i, Pl i)) hx
  have hcell : ∀ i, i < len → (F i).length = n ∧ ∀ t, t < n → w.cell? (a.add (i * n + t)) = (F i)[t]? := fun i hi => by
    obtain ⟨_, h2, h3⟩ := World.cells?_some (hF i (by omega)).1
    refine ⟨h2, fun t ht => ?_⟩
    have := h3 t ht
    rw [← this, add_add]
  refine ⟨a, len, cap, fun t => ((F (t / n))[t % n]?).getD (.bool false), D, _, f, rfl, hl, hm, rfl, fun t ht => ?_, fun j hj => ⟨Pl j, ?_⟩⟩
  · have hi : t / n < len := by rw [Nat.div_lt_iff_lt_mul hn]; exact ht
    have hr : t % n < n := Nat.mod_lt _ hn
    have h1 := (hcell _ hi).2 _ hr
    rw [show t / n * n + t % n = t by rw [Nat.mul_comm]; exact Nat.div_add_mod t n] at h1
    rw [h1]
    have hlt : t % n < (F (t / n)).length := by rw [(hcell _ hi).1]; exact hr
    simp [hlt]
  · rw [← (hF j (by omega)).2]
    congr 1
    have hlen := (hcell j hj).1
    apply List.ext_getElem?
    intro i
    by_cases hi : i < n
    · have e1 : (j * n + i) / n = j := by rw [Nat.mul_comm, Nat.mul_add_div hn, Nat.div_eq_of_lt hi]; rfl
      have e2 : (j * n + i) % n = i := by rw [Nat.mul_comm, Nat.mul_add_mod, Nat.mod_eq_of_lt hi]
      have hlt : i < (F j).length := by rw [hlen]; exact hi
      rw [List.getElem?_map, List.getElem?_range hi, Option.map_some]
      show some ((F ((j * n + i) / n))[(j * n + i) % n]?.getD (.bool false)) = _
      rw [e1, e2, List.getElem?_eq_getElem hlt, Option.getD_some]
    · simp [hi, hlen]

/-- What an element weighs stands among what its slice weighs. -/
theorem weightsAll_mem {e : TypeId} {d : DataW H} {k : Nat} (hk : k ∈ d.weights P e) : ∀ {l : List (DataW H)}, d ∈ l → k ∈ DataW.weightsAll P e l
  | x :: r, hd => by
    simp only [DataW.weightsAll, List.mem_append]
    rcases List.mem_cons.1 hd with rfl | hd
    · exact .inl hk
    · exact .inr (weightsAll_mem hk hd)
end

theorem cells38 : Yba.prog.cellsOf 38 = 1 := by kernel_rfl
theorem cells49 : Yba.prog.cellsOf 49 = 3 := by kernel_rfl
theorem cells47 : Yba.prog.cellsOf 47 = 1 := by kernel_rfl
theorem cells21 : Yba.prog.cellsOf 21 = 1 := by kernel_rfl
theorem bytes38 : Yba.prog.bytesOf 38 = 24 := by kernel_rfl
theorem bytes49 : Yba.prog.bytesOf 49 = 12 := by kernel_rfl

section
variable {H : Type} {enc : TypeId × Value → H} {w : World}

/-- One log. -/
theorem open_log {fuel : Nat} {v : Value} {d : DataW H} {pl : List MemPlace} (h : DataW.trod enc Yba.prog w 0 (fun _ => true) true fuel 38 [v] = some (d, pl)) :
    ∃ y : Option Addr × Nat × Nat × Nat × Nat × (Nat → Value), v = .slice y.1 y.2.1 y.2.2.1 ∧ (y.1 = none → y.2.1 = 0) ∧ ((∃ els sp, d = .slice els sp ∧ els.length = y.2.1) ∨ y.2.1 = 0) ∧
      (0 < y.2.1 → y.1 = some ⟨y.2.2.2.1, y.2.2.2.2.1, none⟩ ∧ y.2.2.2.1 < w.heap.size) ∧ (∀ t, t < y.2.1 * 3 → w.cell? ⟨y.2.2.2.1, y.2.2.2.2.1 + t, none⟩ = some (y.2.2.2.2.2 t)) ∧
      ∀ j, j < y.2.1 → ∃ a b c : Int, y.2.2.2.2.2 (j * 3) = .int .u8 a ∧ y.2.2.2.2.2 (j * 3 + 1) = .int .i32 b ∧ y.2.2.2.2.2 (j * 3 + 2) = .int .i32 c := by
  rcases open_slice_cells Yba.underlying38 cells49 (by omega) h with ⟨hcs, hx⟩ | ⟨a, len, cap, V, D, sp, m, hcs, hl, hm, hx, hcell, hel⟩
  · simp only [List.cons.injEq, and_true] at hcs
    exact ⟨(none, 0, 0, 0, 0, fun _ => .bool false), hcs, fun _ => rfl, .inr rfl, fun h => absurd h (Nat.lt_irrefl 0), fun t ht => absurd ht (by simp), fun j hj => absurd hj (Nat.not_lt_zero _)⟩
  · simp only [List.cons.injEq, and_true] at hcs
    obtain ⟨b, off, spot⟩ := a
    have hspot : 0 < len → spot = none := fun h0 => by simpa [Addr.add] using World.cell?_spot (hcell 0 (by omega))
    have hcell' : ∀ t, t < len * 3 → w.cell? ⟨b, off + t, none⟩ = some (V t) := fun t ht => by
      have := hspot (by omega)
      subst this
      rw [← add_plain]; exact hcell t ht
    have hb : 0 < len → b < w.heap.size := fun h0 => by
      have := hcell' 0 (by omega)
      simp only [World.cell?] at this
      cases hq : w.heap[b]? with
      | none => simp [hq] at this
      | some o => exact (Array.getElem?_eq_some_iff.1 hq).1
    refine ⟨(some ⟨b, off, spot⟩, len, cap, b, off, V), hcs, fun h => by simp at h, .inl ⟨_, _, hx, by simp⟩, fun h0 => ⟨by rw [hspot h0], hb h0⟩, hcell', fun j hj => ?_⟩
    obtain ⟨pl, hpl⟩ := hel j hj
    obtain ⟨y0, y1, y2, n, _, _, t0, t1, t2⟩ := trod_struct3 Yba.underlying49 hpl
    simp only [cells47, cells21] at t0 t1 t2
    obtain ⟨a0, e0, _, _⟩ := DataW.trod_int Yba.underlying47 t0
    obtain ⟨a1, e1, _, _⟩ := DataW.trod_int Yba.underlying21 t1
    obtain ⟨a2, e2, _, _⟩ := DataW.trod_int Yba.underlying21 t2
    simp [List.range_succ] at e0 e1 e2
    exact ⟨a0, a1, a2, e0, e1, e2⟩

/-- The logs. -/
theorem open_logs {fuel : Nat} {ao : Option Addr} {len cap : Nat} {d : DataW H} {pl : List MemPlace} (h : DataW.trod enc Yba.prog w 0 (fun _ => true) true fuel 36 [.slice ao len cap] = some (d, pl))
    (hw : ∀ k ∈ d.weights Yba.prog 36, k ≤ reachBytes) :
    len ≤ 140737488351232 ∧ ∃ b off A L C EB EO V, Logs w ao len b off A L C EB EO V := by
  rcases open_slice1 Yba.underlying36 cells38 h with ⟨hcs, hx⟩ | ⟨a, len', cap', m, n, V, D, Pl, hcs, _, hl, hm, hmm, hx, hel⟩
  · simp at hcs
    obtain ⟨rfl, rfl, rfl⟩ := hcs
    exact ⟨by omega, 0, 0, fun _ => none, fun _ => 0, fun _ => 0, fun _ => 0, fun _ => 0, fun _ _ => .bool false,
      ⟨fun h => absurd h (Nat.lt_irrefl 0), fun h => absurd h (Nat.lt_irrefl 0), fun i h => absurd h (Nat.not_lt_zero _), fun i h => absurd h (Nat.not_lt_zero _), fun i h => absurd h (Nat.not_lt_zero _), fun i h => absurd h (Nat.not_lt_zero _), fun i h => absurd h (Nat.not_lt_zero _), fun i h => absurd h (Nat.not_lt_zero _)⟩⟩
  · simp only [List.cons.injEq, and_true, Value.slice.injEq] at hcs
    obtain ⟨rfl, rfl, rfl⟩ := hcs
    simp only [if_true] at hmm
    subst hmm
    simp only [Prod.mk.injEq] at hx
    obtain ⟨rfl, rfl⟩ := hx
    have hwo : len ≤ 140737488351232 := by
      have := hw _ (by simp only [DataW.weights, Yba.underlying36]; exact List.mem_cons_self)
      rw [bytes38] at this
      simp [reachBytes] at this
      omega
    refine ⟨hwo, ?_⟩
    have each : ∀ i, i < len → ∃ y : Option Addr × Nat × Nat × Nat × Nat × (Nat → Value), V i = .slice y.1 y.2.1 y.2.2.1 ∧ (y.1 = none → y.2.1 = 0) ∧ y.2.1 ≤ 140737488351232 ∧
      (0 < y.2.1 → y.1 = some ⟨y.2.2.2.1, y.2.2.2.2.1, none⟩ ∧ y.2.2.2.1 < w.heap.size) ∧ (∀ t, t < y.2.1 * 3 → w.cell? ⟨y.2.2.2.1, y.2.2.2.2.1 + t, none⟩ = some (y.2.2.2.2.2 t)) ∧
      ∀ j, j < y.2.1 → ∃ a b c : Int, y.2.2.2.2.2 (j * 3) = .int .u8 a ∧ y.2.2.2.2.2 (j * 3 + 1) = .int .i32 b ∧ y.2.2.2.2.2 (j * 3 + 2) = .int .i32 c := by
      intro i hi
      obtain ⟨y, h1, h2, h3, h4, h5, h6⟩ := open_log (hel i (by omega)).2
      refine ⟨y, h1, h2, ?_, h4, h5, h6⟩
      rcases h3 with ⟨els, sp, hd, hle⟩ | h0
      · have := hw ((els.length + sp.length) * Yba.prog.bytesOf 49) (by
          simp only [DataW.weights, Yba.underlying36]
          refine List.mem_cons_of_mem _ (List.mem_append_left _ (weightsAll_mem (d := D i) ?_ (List.mem_map.2 ⟨i, List.mem_range.2 hi, rfl⟩)))
          rw [hd]
          simp only [DataW.weights, Yba.underlying38]
          exact List.mem_cons_self)
        rw [bytes49] at this
        simp [reachBytes] at this
        omega
      · omega
    obtain ⟨y, hy⟩ := choose_lt (α := Option Addr × Nat × Nat × Nat × Nat × (Nat → Value)) each
    obtain ⟨b, off, spot⟩ := a
    have hspot : 0 < len → spot = none := fun h0 => by simpa [Addr.add] using World.cell?_spot (hel 0 (by omega)).1
    have hcell : ∀ i, i < len → w.cell? ⟨b, off + i, none⟩ = some (V i) := fun i hi => by
      have := hspot (by omega)
      subst this
      rw [← add_plain]; exact (hel i (by omega)).1
    refine ⟨b, off, fun i => (y i).1, fun i => (y i).2.1, fun i => (y i).2.2.1, fun i => (y i).2.2.2.1, fun i => (y i).2.2.2.2.1, fun i => (y i).2.2.2.2.2,
      ⟨fun h0 => by rw [hspot h0], fun h0 => ?_, fun i hi => by rw [hcell i hi, (hy i hi).1], fun i hi => (hy i hi).2.1, fun i hi => (hy i hi).2.2.1, fun i hi => (hy i hi).2.2.2.1, fun i hi => (hy i hi).2.2.2.2.1, fun i hi => (hy i hi).2.2.2.2.2⟩⟩
    have := hcell 0 h0
    simp only [World.cell?] at this
    cases hq : w.heap[b]? with
    | none => simp [hq] at this
    | some o => exact (Array.getElem?_eq_some_iff.1 hq).1
end
end Go.Proofs.Ybulkdkpg.lawS5583BWhole
