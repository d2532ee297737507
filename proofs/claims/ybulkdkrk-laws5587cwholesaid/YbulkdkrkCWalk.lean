import Derived.Test.YbulkdkrkCT2
namespace Go.Proofs.Ybulkdkrk.lawS5587CWhole
open Go.ChangeShapes Go.WideShapes Go.ChangeAt Go.RowKit Go.Proofs.Ybulkdkrk.lawS5587AWhole
set_option linter.unusedVariables false

set_option maxRecDepth 1000000 in
set_option maxHeartbeats 8000000 in
/-- THE LAW's FUNCTION: true, nothing that came in is changed. -/
theorem walk (w : World) (a0 : Option Addr) (n0 c0 b0 o0 : Nat) (I0 : Nat → Nat) (h0 : Bts w a0 n0 b0 o0 I0) (hn0 : n0 ≤ 1152921504606846976) (nd xb : Nat) (ll : Int) (two ss : Bool) (pC : Nat) (pN pK : Int) (hcB : pC ≤ 255) (hnd : nd ≤ 255) (hxb : xb ≤ 255) (hl0 : -9223372036854775808 ≤ ll) (hl1 : ll ≤ 9223372036854775807)
    (a7 : Option Addr) (n7 c7 b7 o7 : Nat) (C7 : Nat → Nat) (N7 K7 : Nat → Int) (h7 : Src w a7 n7 b7 o7 C7 N7 K7) (hn7 : n7 ≤ 1152921504606846976) (a8 : Option Addr) (n8 c8 b8 o8 : Nat) (C8 : Nat → Nat) (N8 K8 : Nat → Int) (h8 : Src w a8 n8 b8 o8 C8 N8 K8) (hn8 : n8 ≤ 1152921504606846976) (a9 : Option Addr) (n9 c9 b9 o9 : Nat) (C9 : Nat → Nat) (N9 K9 : Nat → Int) (h9 : Src w a9 n9 b9 o9 C9 N9 K9) (hn9 : n9 ≤ 1152921504606846976) :
    Calls Yba.prog 4 #[.slice a0 n0 c0, .int .u8 (nd : Int), .int .u8 (xb : Int), .int .i64 ll, .bool two, .bool ss, .agg #[.int .u8 (pC : Int), .int .i64 pN, .int .i64 pK], .slice a7 n7 c7, .slice a8 n8 c8, .slice a9 n9 c9] w fun e w' => e = .returned (.bool true) ∧ Below w.heap.size w w' := by
  have H0 : Hid (Bts w a0 n0 b0 o0 I0) := h0
  have H7 : Hid (Src w a7 n7 b7 o7 C7 N7 K7) := h7
  have H8 : Hid (Src w a8 n8 b8 o8 C8 N8 K8) := h8
  have H9 : Hid (Src w a9 n9 b9 o9 C9 N9 K9) := h9
  clear h0 h7 h8 h9
  go_enter Yba.func4, Yba.ntmps4
  refine wp_seq_k ?_
  intro K hK
  have HK := show Hid _ from hK
  clear hK
  go_wp2_with fail
  refine HK.out _ _ ?_
  clear HK K
  generalize hw1 : World.alloc _ _ = w1
  have hb1 : Below w.heap.size w w1 := by subst hw1; exact nb (Below.refl _ _) (Nat.le_refl _) _
  have sz1 : w1.heap.size = w.heap.size + 1 := by subst hw1; simp
  have q0 : w1.cell? ⟨w.heap.size, 0, none⟩ = some (.int .u8 (pC : Int)) := by subst hw1; simp [go_sem]
  have q1 : w1.cell? ⟨w.heap.size, 1, none⟩ = some (.int .i64 pN) := by subst hw1; simp [go_sem]
  have q2 : w1.cell? ⟨w.heap.size, 2, none⟩ = some (.int .i64 pK) := by subst hw1; simp [go_sem]
  clear hw1
  have HB1 : Hid (Below w.heap.size w w1) := hb1
  have HQ : Hid (w1.cell? ⟨w.heap.size, 0, none⟩ = some (.int .u8 (pC : Int)) ∧ w1.cell? ⟨w.heap.size, 1, none⟩ = some (.int .i64 pN) ∧ w1.cell? ⟨w.heap.size, 2, none⟩ = some (.int .i64 pK)) := ⟨q0, q1, q2⟩
  clear hb1 q0 q1 q2
  refine wp_seq_k ?_
  intro K hK
  have HK := show Hid _ from hK
  clear hK
  by_cases hbig : 65536 < n0 + n7 + n8 + n9
  · go_wp2_with fail
    go_ret
    exact ⟨rfl, HB1.out⟩
  · have HS : Hid (n0 ≤ 65536 ∧ n7 ≤ 65536 ∧ n8 ≤ 65536 ∧ n9 ≤ 65536) := by refine ⟨?_, ?_, ?_, ?_⟩ <;> omega
    go_wp2_with fail
    refine HK.out _ _ ?_
    exact t2 w w1 w.heap.size a0 n0 c0 b0 o0 I0 H0.out HS.out.1 nd xb ll two ss pC pN pK HB1.out ⟨Nat.le_refl _, by omega⟩ HQ.out.1 HQ.out.2.1 HQ.out.2.2 hcB hnd hxb hl0 hl1 a7 n7 c7 b7 o7 C7 N7 K7 H7.out HS.out.2.1 a8 n8 c8 b8 o8 C8 N8 K8 H8.out HS.out.2.2.1 a9 n9 c9 b9 o9 C9 N9 K9 H9.out HS.out.2.2.2 _ rfl
end Go.Proofs.Ybulkdkrk.lawS5587CWhole
