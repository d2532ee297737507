import Derived.Test.YbulkdkpgRows
import Derived.WalkKit
import Derived.ProofKit
import Derived.RegionTactic
import Derived.ChangeAlike
import Derived.WalkSpells
namespace Go.Proofs.Ybulkdkpg.lawS5583AWhole
open Go.ChangeShapes Go.WideShapes Go.ChangeAt Go.RowKit
set_option linter.unusedVariables false

/-- The larger of two numbers, under a name of its own. -/
def mx (a b : Int) : Int := if a < b then b else a

theorem max2 (a b : Int) (w : World) :
    Calls Yba.prog 6 #[.int .i64 a, .int .i64 b] w fun e w' => e = .returned (.int .i64 (mx a b)) ∧ w' = w := by
  unfold mx
  by_cases h : a < b
  · rw [if_pos h]
    go_enter Yba.func6, Yba.ntmps6
    go_wp2
    go_ret
    exact ⟨rfl, rfl⟩
  · rw [if_neg h]
    go_enter Yba.func6, Yba.ntmps6
    go_wp2
    go_ret
    exact ⟨rfl, rfl⟩

/-- What tolerance returns. -/
def tolV (s v r n : Int) : Int := if n < 16 then mx (mx (wrap64 (s.tdiv 4)) r) (wrap64 (v + v)) else mx (wrap64 (s.tdiv 4)) r

theorem ret_int {k : IntKind} {a b : Int} (h : a = b) : Ending.returned (.int k a) = .returned (.int k b) := by rw [h]

theorem tol (b o : Nat) (s v r n : Int) (w : World) (c6 : w.cell? ⟨b, o + 6, none⟩ = some (.int .i64 s)) (c7 : w.cell? ⟨b, o + 7, none⟩ = some (.int .i64 v)) (c11 : w.cell? ⟨b, o + 11, none⟩ = some (.int .i64 r)) (c9 : w.cell? ⟨b, o + 9, none⟩ = some (.int .i64 n)) :
    Calls Yba.prog 5 #[.pointer (some ⟨b, o, none⟩)] w fun e w' => e = .returned (.int .i64 (tolV s v r n)) ∧ w' = w.drew := by
  go_enter Yba.func5, Yba.ntmps5
  go_wp2
  go_region
  all_goals go_wp2
  all_goals (go_ret; refine ⟨ret_int ?_, rfl⟩; simp only [tolV, mx, ← Int.two_mul]; repeat (split <;> try omega))

/-- The zero value of a peer, under a name. -/
def z31 : Array Value := ([.slice none 0 0, .int .u64 0, .int .i64 0, .int .i64 0, .int .i64 0, .int .i64 0, .int .i64 0, .int .i64 0, .bool false, .int .i64 0, .int .i64 0, .int .i64 0, .bool false, .int .i64 0, .int .i64 0, .int .i64 0, .int .i64 0, .int .i64 0] ++ List.replicate 132 (.int .u64 0) ++ [.bool false, .int .i64 0, .slice none 0 0, .map none, .int .i64 0, .slice none 0 0, .bool false] : List Value).toArray
theorem zero31 (w : World) : Sem.run Yba.prog (zeroValue 31) w = .ok (.agg z31) w := by kernel_rfl
theorem z31_size : z31.size = 157 := by kernel_rfl
theorem z31_0 (h : 0 < z31.size) : z31[0] = .slice none 0 0 := by kernel_rfl
theorem z31_152 (h : 152 < z31.size) : z31[152] = .slice none 0 0 := by kernel_rfl
theorem z31_153 (h : 153 < z31.size) : z31[153] = .map none := by kernel_rfl

set_option maxRecDepth 100000 in
set_option maxHeartbeats 4000000 in
theorem core (z : Array Value) (hz : ∀ w, Sem.run Yba.prog (zeroValue 31) w = .ok (.agg z) w) (hs : z.size = 157) (z0 : ∀ h : 0 < z.size, z[0] = .slice none 0 0) (z152 : ∀ h : 152 < z.size, z[152] = .slice none 0 0) (z153 : ∀ h : 153 < z.size, z[153] = .map none)
    (a0 : Int) (a1 : Int) (a2 : Int) (a3 : Int) (a4 : Int) (a5 : Int) (a6 : Bool) (w : World) :
    Calls Yba.prog 3 #[.int .i64 a0, .int .i64 a1, .int .i64 a2, .int .i64 a3, .int .i64 a4, .int .i64 a5, .bool a6] w fun e w' => e = .returned (.bool true) ∧ Grown w w' := by
  have q24 : ∀ w, (binOp .eql 24 (.slice none 0 0) (.slice none 0 0)).run Yba.prog w = .ok (.bool true) w := fun w => Lib.run_eql_slice_nil w _ _ none 0 0 0 0 Yba.underlying24
  have q27 : ∀ w, (binOp .eql 27 (.slice none 0 0) (.slice none 0 0)).run Yba.prog w = .ok (.bool true) w := fun w => Lib.run_eql_slice_nil w _ _ none 0 0 0 0 Yba.underlying27
  have q28 : ∀ w, (binOp .eql 28 (.map none) (.map none)).run Yba.prog w = .ok (.bool true) w := fun w => run_eql_map_nil w _ _ _ none Yba.underlying28
  by_cases h16 : a3 < 16
  · have ht : tolV a0 a1 a2 a3 = mx (mx (wrap64 (a0.tdiv 4)) a2) (wrap64 (a1 + a1)) := by simp [tolV, h16]
    go_enter Yba.func3, Yba.ntmps3
    go_wp2_with (first
      | (go_at_call 5; refine (tol _ _ a0 a1 a2 a3 _ (by go_simp) (by go_simp) (by go_simp) (by go_simp)).mono ?_; rintro e w' ⟨rfl, rfl⟩)
      | (go_at_call 6; refine (max2 _ _ _).mono ?_; rintro e w' ⟨rfl, rfl⟩))
    refine wp_loop_rounds 3 ?_
    rw [rounds_succ]
    go_wp2_with (first
      | (go_at_call 5; refine (tol _ _ a0 a1 a2 a3 _ (by go_simp) (by go_simp) (by go_simp) (by go_simp)).mono ?_; rintro e w' ⟨rfl, rfl⟩)
      | (go_at_call 6; refine (max2 _ _ _).mono ?_; rintro e w' ⟨rfl, rfl⟩))
    rw [rounds_succ]
    go_wp2_with (first
      | (go_at_call 5; refine (tol _ _ a0 a1 a2 a3 _ (by go_simp) (by go_simp) (by go_simp) (by go_simp)).mono ?_; rintro e w' ⟨rfl, rfl⟩)
      | (go_at_call 6; refine (max2 _ _ _).mono ?_; rintro e w' ⟨rfl, rfl⟩))
    rw [rounds_succ]
    go_wp2_with (first
      | (go_at_call 5; refine (tol _ _ a0 a1 a2 a3 _ (by go_simp) (by go_simp) (by go_simp) (by go_simp)).mono ?_; rintro e w' ⟨rfl, rfl⟩)
      | (go_at_call 6; refine (max2 _ _ _).mono ?_; rintro e w' ⟨rfl, rfl⟩))
    go_ret
    exact ⟨rfl, by repeat (first | exact Grown.refl _ | apply Grown.drew | apply Grown.alloc)⟩
  · have ht : tolV a0 a1 a2 a3 = mx (wrap64 (a0.tdiv 4)) a2 := by simp [tolV, h16]
    go_enter Yba.func3, Yba.ntmps3
    go_wp2_with (first
      | (go_at_call 5; refine (tol _ _ a0 a1 a2 a3 _ (by go_simp) (by go_simp) (by go_simp) (by go_simp)).mono ?_; rintro e w' ⟨rfl, rfl⟩)
      | (go_at_call 6; refine (max2 _ _ _).mono ?_; rintro e w' ⟨rfl, rfl⟩))
    refine wp_loop_rounds 2 ?_
    rw [rounds_succ]
    go_wp2_with (first
      | (go_at_call 5; refine (tol _ _ a0 a1 a2 a3 _ (by go_simp) (by go_simp) (by go_simp) (by go_simp)).mono ?_; rintro e w' ⟨rfl, rfl⟩)
      | (go_at_call 6; refine (max2 _ _ _).mono ?_; rintro e w' ⟨rfl, rfl⟩))
    rw [rounds_succ]
    go_wp2_with (first
      | (go_at_call 5; refine (tol _ _ a0 a1 a2 a3 _ (by go_simp) (by go_simp) (by go_simp) (by go_simp)).mono ?_; rintro e w' ⟨rfl, rfl⟩)
      | (go_at_call 6; refine (max2 _ _ _).mono ?_; rintro e w' ⟨rfl, rfl⟩))
    go_ret
    exact ⟨rfl, by repeat (first | exact Grown.refl _ | apply Grown.drew | apply Grown.alloc)⟩

theorem walk (a0 : Int) (a1 : Int) (a2 : Int) (a3 : Int) (a4 : Int) (a5 : Int) (a6 : Bool) (w0 : (Lit.int .i64 a0).wf = true) (w1 : (Lit.int .i64 a1).wf = true) (w2 : (Lit.int .i64 a2).wf = true) (w3 : (Lit.int .i64 a3).wf = true) (w4 : (Lit.int .i64 a4).wf = true) (w5 : (Lit.int .i64 a5).wf = true) (w : World) :
    Calls Yba.prog 3 #[.int .i64 a0, .int .i64 a1, .int .i64 a2, .int .i64 a3, .int .i64 a4, .int .i64 a5, .bool a6] w fun e w' => e = .returned (.bool true) ∧ Grown w w' :=
  core z31 zero31 z31_size z31_0 z31_152 z31_153 a0 a1 a2 a3 a4 a5 a6 w
end Go.Proofs.Ybulkdkpg.lawS5583AWhole
