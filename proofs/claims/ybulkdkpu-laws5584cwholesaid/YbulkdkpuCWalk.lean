import Derived.Test.YbulkdkpuRows
import Derived.WalkKit
import Derived.ProofKit
import Derived.WalkSpells
import Derived.WalkSmall
import Derived.Handy
import Derived.RegionTactic
import Derived.ChangeAlike
import Derived.Deep.QuietTactic
import Derived.BigQuiet
import Derived.BigRegion
import Derived.LaidEqlPtr
namespace Go.Proofs.Ybulkdkpu.lawS5584CWhole
open Go.ChangeShapes Go.WideShapes Go.ChangeAt Go.RowKit

theorem run_store_float {P : Program} (w : World) (a : Addr) (m : Mode) (k : FloatKind) (b : Nat) : (store a (.float k b) m).run P w = stored P w a (.float k b) m := run_store P w a _ m rfl
attribute [local go_sem] run_store_float

theorem bits_run (b : Nat) (w : World) : (callFunc 6 #[.float .f64 b]).run Yba.prog w = .ok (.value (.int .u64 b)) w := by kernel_rfl

theorem neq_same (a : Addr) (w : World) : (binOp .neq 29 (.pointer (some a)) (.pointer (some a))).run Yba.prog w = .ok (.bool false) w := by
  have h1 : (Yba.prog.info? 22).map (·.size) = some 1 := by kernel_rfl
  obtain ⟨j, hj, _⟩ := Option.map_eq_some_iff.1 h1
  have h : ∀ d : Nat, (Op.equalIn (d + 1) 29 (.pointer (some a)) (.pointer (some a))).run Yba.prog w = .ok true w := fun d => by
    simp [Op.equalIn, run_underlying Yba.underlying29, sizeOf, typeInfo, hj, run_sameAddr_same]
  simp only [binOp]
  simp [Op.equal, Op.maxDepth, h 9999]

theorem same_self (b : Nat) (w : World) : Calls Yba.prog 5 #[.float .f64 b, .float .f64 b] w fun e w' => e = .returned (.bool true) ∧ w' = w := by
  have hb := bits_run b
  go_enter Yba.func5, Yba.ntmps5
  go_wp2
  go_ret
  exact ⟨rfl, rfl⟩

theorem same_quiet (b : Nat) (W : World) (q x : Nat) : Calls Yba.prog 5 #[.float .f64 b, .float .f64 b] (W.drewN (q + x)) fun e w' => e = .returned (.bool true) ∧ ∃ n, w' = W.drewN (q + n) :=
  (same_self b _).mono (by rintro e w' ⟨rfl, rfl⟩; exact ⟨rfl, x, rfl⟩)

theorem numbers1 (B : Nat) (w : World) (hB : B < w.heap.size) (hc : w.cell? ⟨B, 0, none⟩ = some (.int .u8 1)) :
    Calls Yba.prog 4 #[.pointer (some ⟨B, 0, none⟩)] w fun e w' =>
      e = .returned (.tuple #[.agg #[.pointer (some ⟨B, 3, none⟩), .pointer (some ⟨B, 4, none⟩), .pointer none, .pointer none], .int .i64 2]) ∧ w' = (w.alloc (.cells #[.pointer (some ⟨B, 3, none⟩), .pointer (some ⟨B, 4, none⟩), .pointer none, .pointer none] 30)).drew := by
  go_enter Yba.func4, Yba.ntmps4
  go_wp2
  go_region
  all_goals go_wp2
  all_goals (simp [bodyPost, results, Yba.results4, go_sem])

theorem numbers3 (B : Nat) (w : World) (hB : B < w.heap.size) (hc : w.cell? ⟨B, 0, none⟩ = some (.int .u8 3)) :
    Calls Yba.prog 4 #[.pointer (some ⟨B, 0, none⟩)] w fun e w' =>
      e = .returned (.tuple #[.agg #[.pointer (some ⟨B, 5, none⟩), .pointer (some ⟨B, 6, none⟩), .pointer (some ⟨B, 7, none⟩), .pointer (some ⟨B, 8, none⟩)], .int .i64 4]) ∧ w' = (w.alloc (.cells #[.pointer (some ⟨B, 5, none⟩), .pointer (some ⟨B, 6, none⟩), .pointer (some ⟨B, 7, none⟩), .pointer (some ⟨B, 8, none⟩)] 30)).drew := by
  go_enter Yba.func4, Yba.ntmps4
  go_wp2
  go_region
  all_goals go_wp2
  all_goals (simp [bodyPost, results, Yba.results4, go_sem])

theorem numbers0 (B : Nat) (k : Int) (w : World) (hB : B < w.heap.size) (hc : w.cell? ⟨B, 0, none⟩ = some (.int .u8 k)) (h1 : (k == 1) = false) (h3 : (k == 3) = false) :
    Calls Yba.prog 4 #[.pointer (some ⟨B, 0, none⟩)] w fun e w' =>
      e = .returned (.tuple #[.agg #[.pointer none, .pointer none, .pointer none, .pointer none], .int .i64 0]) ∧ w' = w.alloc (.cells #[.pointer none, .pointer none, .pointer none, .pointer none] 30) := by
  go_enter Yba.func4, Yba.ntmps4
  go_wp2
  simp [bodyPost, results, Yba.results4, go_sem]

set_option maxRecDepth 100000 in
set_option maxHeartbeats 4000000 in
theorem walk1 (c i : ByteArray) (x y x1 y1 x2 y2 : Nat) (w : World) :
    Calls Yba.prog 3 #[.int .u8 1, .string c, .string i, .float .f64 x, .float .f64 y, .float .f64 x1, .float .f64 y1, .float .f64 x2, .float .f64 y2] w fun e w' => e = .returned (.bool true) ∧ Below w.heap.size w w' := by
  have hne := neq_same
  go_enter Yba.func3, Yba.ntmps3
  go_wp2_with (first
    | (go_at_call 4; refine (numbers1 _ _ (by simp) (by go_simp)).mono ?_; rintro e w' ⟨rfl, rfl⟩)
    | (go_at_call 5; refine (same_self _ _).mono ?_; rintro e w' ⟨rfl, rfl⟩))
  refine wp_loop_rounds 5 ?_
  rw [rounds_succ]
  go_wp2
  go_quiet (fail)
  go_wp2
  rw [rounds_succ]
  go_wp2
  go_quiet (fail)
  go_wp2
  rw [rounds_succ]
  go_wp2
  go_quiet (fail)
  go_wp2
  rw [rounds_succ]
  go_wp2
  go_quiet (fail)
  go_wp2
  rw [rounds_succ]
  go_wp2
  refine wp_loop_rounds 3 ?_
  rw [rounds_succ]
  go_wp2_with fail
  go_quiet ((go_at_call 5; first | exact Calls.quiet_of_same (same_self _ _) | exact same_quiet _ _ _ _))
  go_wp2_with fail
  rw [rounds_succ]
  go_wp2_with fail
  go_quiet ((go_at_call 5; first | exact Calls.quiet_of_same (same_self _ _) | exact same_quiet _ _ _ _))
  go_wp2_with fail
  rw [rounds_succ]
  go_wp2
  go_ret
  exact ⟨rfl, by repeat' (first | (with_reducible exact Below.refl _ _) | (with_reducible refine below_drewN ?_ _) | (with_reducible refine Below.drew ?_) | (with_reducible refine Below.alloc ?_ ?_ _) | (with_reducible refine Below.setCell ?_ ?_ _) | (simp; omega) | (simp; done))⟩

set_option maxRecDepth 100000 in
set_option maxHeartbeats 4000000 in
theorem walk3 (c i : ByteArray) (x y x1 y1 x2 y2 : Nat) (w : World) :
    Calls Yba.prog 3 #[.int .u8 3, .string c, .string i, .float .f64 x, .float .f64 y, .float .f64 x1, .float .f64 y1, .float .f64 x2, .float .f64 y2] w fun e w' => e = .returned (.bool true) ∧ Below w.heap.size w w' := by
  have hne := neq_same
  go_enter Yba.func3, Yba.ntmps3
  go_wp2_with (first
    | (go_at_call 4; refine (numbers3 _ _ (by simp) (by go_simp)).mono ?_; rintro e w' ⟨rfl, rfl⟩)
    | (go_at_call 5; refine (same_self _ _).mono ?_; rintro e w' ⟨rfl, rfl⟩))
  refine wp_loop_rounds 5 ?_
  rw [rounds_succ]
  go_wp2
  go_quiet (fail)
  go_wp2
  rw [rounds_succ]
  go_wp2
  go_quiet (fail)
  go_wp2
  rw [rounds_succ]
  go_wp2
  go_quiet (fail)
  go_wp2
  rw [rounds_succ]
  go_wp2
  go_quiet (fail)
  go_wp2
  rw [rounds_succ]
  go_wp2
  refine wp_loop_rounds 5 ?_
  rw [rounds_succ]
  go_wp2_with fail
  go_quiet ((go_at_call 5; first | exact Calls.quiet_of_same (same_self _ _) | exact same_quiet _ _ _ _))
  go_wp2_with fail
  rw [rounds_succ]
  go_wp2_with fail
  go_quiet ((go_at_call 5; first | exact Calls.quiet_of_same (same_self _ _) | exact same_quiet _ _ _ _))
  go_wp2_with fail
  rw [rounds_succ]
  go_wp2_with fail
  go_quiet ((go_at_call 5; first | exact Calls.quiet_of_same (same_self _ _) | exact same_quiet _ _ _ _))
  go_wp2_with fail
  rw [rounds_succ]
  go_wp2_with fail
  go_quiet ((go_at_call 5; first | exact Calls.quiet_of_same (same_self _ _) | exact same_quiet _ _ _ _))
  go_wp2_with fail
  rw [rounds_succ]
  go_wp2
  go_ret
  exact ⟨rfl, by repeat' (first | (with_reducible exact Below.refl _ _) | (with_reducible refine below_drewN ?_ _) | (with_reducible refine Below.drew ?_) | (with_reducible refine Below.alloc ?_ ?_ _) | (with_reducible refine Below.setCell ?_ ?_ _) | (simp; omega) | (simp; done))⟩

set_option maxRecDepth 100000 in
set_option maxHeartbeats 4000000 in
theorem walk0 (k : Int) (c i : ByteArray) (x y x1 y1 x2 y2 : Nat) (w : World) (h1 : (k == 1) = false) (h3 : (k == 3) = false) :
    Calls Yba.prog 3 #[.int .u8 k, .string c, .string i, .float .f64 x, .float .f64 y, .float .f64 x1, .float .f64 y1, .float .f64 x2, .float .f64 y2] w fun e w' => e = .returned (.bool true) ∧ Below w.heap.size w w' := by
  have hne := neq_same
  go_enter Yba.func3, Yba.ntmps3
  go_wp2_with (first
    | (go_at_call 4; refine (numbers0 _ k _ (by simp) (by go_simp) h1 h3).mono ?_; rintro e w' ⟨rfl, rfl⟩)
    | (go_at_call 5; refine (same_self _ _).mono ?_; rintro e w' ⟨rfl, rfl⟩))
  refine wp_loop_rounds 5 ?_
  rw [rounds_succ]
  go_wp2
  go_quiet (fail)
  go_wp2
  rw [rounds_succ]
  go_wp2
  go_quiet (fail)
  go_wp2
  rw [rounds_succ]
  go_wp2
  go_quiet (fail)
  go_wp2
  rw [rounds_succ]
  go_wp2
  go_quiet (fail)
  go_wp2
  rw [rounds_succ]
  go_wp2
  refine wp_loop_rounds 1 ?_
  rw [rounds_succ]
  go_wp2
  go_ret
  exact ⟨rfl, by repeat' (first | (with_reducible exact Below.refl _ _) | (with_reducible refine below_drewN ?_ _) | (with_reducible refine Below.drew ?_) | (with_reducible refine Below.alloc ?_ ?_ _) | (with_reducible refine Below.setCell ?_ ?_ _) | (simp; omega) | (simp; done))⟩

end Go.Proofs.Ybulkdkpu.lawS5584CWhole
