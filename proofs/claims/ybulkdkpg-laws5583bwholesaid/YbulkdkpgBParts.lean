import Derived.Test.YbulkdkpgRows
import Derived.WalkKit
import Derived.ProofKit
import Derived.WalkSpells
import Derived.WalkSmall
import Derived.Handy
import Derived.RegionTactic
import Derived.ChangeAlike
import Derived.Deep.OwnRows
import Derived.Deep.RegionLaw
import Derived.Laws.CopyOwn
import Derived.Deep.QuietTactic
import Derived.BigQuiet
namespace Go.Proofs.Ybulkdkpg.lawS5583BWhole
open Go.ChangeShapes Go.WideShapes Go.ChangeAt Go.RowKit

section
variable {P : Program}

/-- copy over a whole row, elements of whatever number of cells. -/
theorem run_copy_all (w : World) (dT sT ty elem : TypeId) (g L dCap sCap size : Nat) (sp : Option Addr) (cur : Array Value) (t : TypeId) (cs : List Value)
    (hu : P.underlying dT = some (.slice elem)) (hs : (P.info? elem).map (·.size) = some size)
    (hg : w.heap[g]? = some (.cells cur t (0, 0))) (hn : cs.length = L * size) (hcur : cur.size = L * size)
    (hsrc : 0 < L → ∃ ad, sp = some ad ∧ ∀ j v, cs[j]? = some v → w.cell? (ad.add j) = some v) (h1 : ∀ v ∈ cs, v.oneCell' = true) :
    (Builtin.copy_ #[dT, sT] ty #[.slice (some ⟨g, 0, none⟩) L dCap, .slice sp L sCap]).run P w = .ok (goInt L) (w.setRow g cs.toArray) := by
  have hmin : Nat.min L L = L := Nat.min_self L
  cases hq : P.info? elem with
  | none => simp [hq] at hs
  | some i =>
    have hi : i.size = size := by simpa [hq] using hs
    have hst := run_storeCells_at P g 0 t cs 0 cur w hg (by simp; omega) h1
    have e1 : (cur.toList.take (0 + 0) ++ cs ++ cur.toList.drop (0 + 0 + cs.length)).toArray = cs.toArray := by
      congr 1
      rw [List.drop_eq_nil_of_le (by simp; omega)]
      simp
    rw [e1] at hst
    by_cases h0 : L = 0
    · subst h0
      obtain rfl : cs = [] := List.eq_nil_of_length_eq_zero (by omega)
      have hl : ∀ (x : Addr), (loadCells x 0).run P w = .ok #[] w := fun x => by simpa using run_loadCells_list (P := P) w x [] (by simp)
      cases sp <;> simp [Builtin.copy_, run_underlying hu, Builtin.lenOf, Builtin.firstCells, sizeOf, typeInfo, hq, hl, hst]
    · obtain ⟨ad, rfl, hc⟩ := hsrc (by omega)
      have hl := run_loadCells_list (P := P) w ad cs hc
      rw [hn] at hl
      simp [Builtin.copy_, run_underlying hu, Builtin.lenOf, Builtin.firstCells, sizeOf, typeInfo, hq, hi, hl, hst, hmin]

/-- .. as one step of a region that draws its order. -/
theorem step_copy_all {ops : Array Oper} {o : Oper} {a : Act} {w : World} {K : Act → World → Prop} {Q : Exit → Act → World → Prop} {E : Prop} (hgd : o.guard = none) (d s : Operand) (dT sT : TypeId)
    (ho : o.op = .call { callee := .builtin .copy, args := #[d, s], argTypes := #[dT, sT] }) (elem : TypeId) (size : Nat) (hu : P.underlying dT = some (.slice elem)) (hsz : (P.info? elem).map (·.size) = some size)
    (g L dCap sCap : Nat) (sp : Option Addr) (hd : a.eval d = .slice (some ⟨g, 0, none⟩) L dCap) (hs : a.eval s = .slice sp L sCap)
    (cur : Array Value) (t : TypeId) (hg : w.heap[g]? = some (.cells cur t (0, 0))) (cs : List Value) (hn : cs.length = L * size) (hcur : cur.size = L * size)
    (hsrc : 0 < L → ∃ ad, sp = some ad ∧ ∀ j v, cs[j]? = some v → w.cell? (ad.add j) = some v) (h1 : ∀ v ∈ cs, v.oneCell' = true)
    (h : K (a.put o.dst (goInt L)) (w.setRow g cs.toArray)) :
    if Region.wanted o (yielded ops a.tmps) = true then Oper.wp P o a w K Q else E := by
  have hw : Region.wanted o (yielded ops a.tmps) = true := by simp [Region.wanted, hgd]
  rw [if_pos hw]
  have hrun := run_copy_all (P := P) w dT sT o.type elem g L dCap sCap size sp cur t cs hu hsz hg hn hcur hsrc h1
  unfold Oper.wp
  simp [execOp, ho, resolve, invoke, builtin, hd, hs, hrun, Result.andThen]
  exact h
end

theorem info3 : (Yba.prog.info? 3).map (fun i => (i.zero, i.size, i.bytes)) = some (some (.int .i64 0), 1, 8) := by kernel_rfl
theorem info38 : (Yba.prog.info? 38).map (fun i => (i.zero, i.size, i.bytes)) = some (some (.slice none 0 0), 1, 24) := by kernel_rfl
theorem info49 : (Yba.prog.info? 49).map (fun i => (i.zero, i.size, i.bytes)) = some (some (.agg #[.int .u8 0, .int .i32 0, .int .i32 0]), 3, 12) := by kernel_rfl

/-- 'make([]Event, n)'. -/
theorem make38 (n : Nat) (hn : n ≤ 1048576) (w : World) :
    (Instr.makeSlice 38 (.int .i64 (n : Int)) (.int .i64 (n : Int))).run Yba.prog w = .ok (.slice (some ⟨w.heap.size, 0, none⟩) n n) (w.alloc (.cells (madeCells #[.int .u8 0, .int .i32 0, .int .i32 0] (n * 3)) 49)) := by
  obtain ⟨i, hi, hz0, hz1, hz2⟩ := info_parts info49
  have hr := run_make (P := Yba.prog) w 38 49 i _ Yba.underlying38 hi hz0 .i64 .i64 n n (by omega) (Int.le_refl _) (by rw [hz2]; omega) (by omega)
  simpa [hz1, Value.cells] using hr

theorem make36 (n : Nat) (hn : n ≤ 1048576) (w : World) :
    (Instr.makeSlice 36 (.int .i64 (n : Int)) (.int .i64 (n : Int))).run Yba.prog w = .ok (.slice (some ⟨w.heap.size, 0, none⟩) n n) (w.alloc (.cells (madeCells #[.slice none 0 0] n) 38)) :=
  run_make_row' 36 38 (.slice none 0 0) 24 Yba.underlying36 info38 rfl .i64 .i64 n (by omega) (by omega) w

theorem make42 (n : Nat) (hn : n ≤ 1048576) (w : World) :
    (Instr.makeSlice 42 (.int .i64 (n : Int)) (.int .i64 (n : Int))).run Yba.prog w = .ok (.slice (some ⟨w.heap.size, 0, none⟩) n n) (w.alloc (.cells (madeCells #[.int .i64 0] n) 3)) :=
  run_make_row' 42 3 (.int .i64 0) 8 Yba.underlying42 info3 rfl .i64 .i64 n (by omega) (by omega) w

/-- (*Run).all: a new row 1 .. n. -/
theorem all_any (b n c : Nat) (a : Option Addr) (hn : n ≤ 1048576) (w : World) (hc : w.cell? ⟨b, 0, none⟩ = some (.slice a n c)) :
    Calls Yba.prog 7 #[.pointer (some ⟨b, 0, none⟩)] w fun e w' => e = .returned (.slice (some ⟨w.heap.size, 0, none⟩) n n) ∧ Below w.heap.size w w' ∧ w'.rowIs w.heap.size 3 n (fun i => .int .i64 ((i : Int) + 1)) := by
  have hmk := make42 n hn
  go_enter Yba.func7, Yba.ntmps7
  go_wp2
  go_loopw [13] (fun i wr => ∃ k : Nat, k ≤ n ∧ i = .int .i64 k ∧ Below w.heap.size w wr ∧ wr.rowIs w.heap.size 3 n (fun i => .int .i64 (if i < k then (i : Int) + 1 else 0))) (fun i _ => n - (intOf i).toNat)
  case atStart =>
    refine ⟨0, Nat.zero_le _, rfl, (Below.refl _ _).alloc (Nat.le_refl _) _, ?_⟩
    exact (World.rowIs_made w (.int .i64 0) n 3).congr (fun i hi => by simp)
  case round =>
    obtain ⟨k, hk, rfl, hbel, hrow⟩ := hrel
    by_cases hlt : k < n
    · have hcell := hrow.cell hlt
      have hfz := hrow.frozen k
      have Hrow : Hid (wr.rowIs w.heap.size 3 n (fun i => .int .i64 (if i < k then (i : Int) + 1 else 0))) := hrow
      clear hrow
      simp at hcell
      go_wp2
      go_roundw
      case rel =>
        refine ⟨k + 1, by omega, by go_num, hbel.setCell (Nat.le_refl _) _, ?_⟩
        refine (Hrow.out.set k _).congr (fun i hi => ?_)
        by_cases e : i = k
        · subst e; simp
        · rw [if_neg e]
          by_cases e2 : i < k
          · rw [if_pos e2, if_pos (by omega)]
          · rw [if_neg e2, if_neg (by omega)]
      case measure => simp [intOf]; omega
    · have hkn : k = n := by omega
      subst hkn
      have Hrow : Hid (wr.rowIs w.heap.size 3 k (fun i => .int .i64 (if i < k then (i : Int) + 1 else 0))) := hrow
      clear hrow
      go_wp2
      go_ret
      exact ⟨rfl, hbel, Hrow.out.congr (fun i hi => by rw [if_pos hi])⟩
end Go.Proofs.Ybulkdkpg.lawS5583BWhole
