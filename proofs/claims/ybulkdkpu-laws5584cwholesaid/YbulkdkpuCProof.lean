/-
  The proof of 'Rows.LawS5584CWholeSaid': the frame after the kit's shell; the walks are in YbulkdkpuCWalk.lean.
-/
import Derived.Test.YbulkdkpuCWalk
import Derived.OpenShut
import Derived.ShutString
import Derived.ChangeOld
import Derived.Below
import Derived.Laws.Cover2
namespace Go.Proofs.Ybulkdkpu.lawS5584CWhole
open Go.ChangeShapes Go.WideShapes Go.ChangeAt Go.RowKit
open Go.ChangeMaps (open_string shut_string)

theorem own : ownKnob Yba.prog.godebug = none := by kernel_rfl
theorem laidOut : laidOutB Yba.prog = true := by kernel_rfl

/-- The law at every kind. -/
theorem walk (k : Int) (c i : ByteArray) (x y x1 y1 x2 y2 : Nat) (w : World) :
    Calls Yba.prog 3 #[.int .u8 k, .string c, .string i, .float .f64 x, .float .f64 y, .float .f64 x1, .float .f64 y1, .float .f64 x2, .float .f64 y2] w fun e w' => e = .returned (.bool true) ∧ Below w.heap.size w w' := by
  by_cases h1 : k = 1
  · subst h1; exact walk1 c i x y x1 y1 x2 y2 w
  by_cases h3 : k = 3
  · subst h3; exact walk3 c i x y x1 y1 x2 y2 w
  exact walk0 k c i x y x1 y1 x2 y2 w (by simp [h1]) (by simp [h3])

set_option maxRecDepth 100000 in
theorem lifted (os : Os) (started : os.Started) (H : Type) (enc : TypeId × Value → H) :
    ReturnsInHanded {} Yba.checked os 3 .any (Rows.lawS5584CWholeSpec.pre6 enc Yba.prog Yba.f3 Rows.lawS5584CWholeRow.domain false) (Rows.lawS5584CWholeSpec.post enc Yba.prog Yba.f3 false true false false) := by
  refine returnsInHanded_of_change (C := Yba.checked) own started (by kernel_rfl) Yba.func3
    (ChangeSpec.witness6 (enc := enc) (C := Yba.checked) false ⟨#[], #[.int .u8 0, .string ByteArray.empty, .string ByteArray.empty, .float .f64 0, .float .f64 0, .float .f64 0, .float .f64 0, .float .f64 0, .float .f64 0], []⟩ 8 (by kernel_rfl) (by kernel_rfl) (by kernel_rfl) (by kernel_rfl)) ?_
  intro W base args ds gs before hval0 hW hcnd _
  have hval : ∀ (j : Nat) t v, Yba.f3.params[j]? = some t → args[j]? = some v → Value.okWide Yba.prog W .any base t v := hval0
  have hW' := hW
  obtain ⟨p, q, hA0, hV, rfl, hfz, hnd⟩ := hW
  have hA : DataW.TrodAll enc Yba.prog W 0 (fun _ => true) true Yba.f3.params.toList args.toList ds p := hA0
  rw [Yba.params3] at hA hval
  obtain ⟨v0, vs0, d0, ds0, p0, q0, hargs, rfl, rfl, h0, r0⟩ := trodAll_cons hA
  obtain ⟨v1, vs1, d1, ds1, p1, q1, rfl, rfl, rfl, h1, r1⟩ := trodAll_cons r0
  obtain ⟨v2, vs2, d2, ds2, p2, q2, rfl, rfl, rfl, h2, r2⟩ := trodAll_cons r1
  obtain ⟨v3, vs3, d3, ds3, p3, q3, rfl, rfl, rfl, h3, r3⟩ := trodAll_cons r2
  obtain ⟨v4, vs4, d4, ds4, p4, q4, rfl, rfl, rfl, h4, r4⟩ := trodAll_cons r3
  obtain ⟨v5, vs5, d5, ds5, p5, q5, rfl, rfl, rfl, h5, r5⟩ := trodAll_cons r4
  obtain ⟨v6, vs6, d6, ds6, p6, q6, rfl, rfl, rfl, h6, r6⟩ := trodAll_cons r5
  obtain ⟨v7, vs7, d7, ds7, p7, q7, rfl, rfl, rfl, h7, r7⟩ := trodAll_cons r6
  obtain ⟨v8, vs8, d8, ds8, p8, q8, rfl, rfl, rfl, h8, r8⟩ := trodAll_cons r7
  obtain ⟨rfl, rfl, rfl⟩ := trodAll_nil r8
  obtain rfl : args = #[v0, v1, v2, v3, v4, v5, v6, v7, v8] := by cases args; simp_all
  obtain ⟨rfl, rfl⟩ := trodVars_none hV
  have k0 := h0
  have lt0 : ∀ x ∈ p0, x.block < W.heap.size := by obtain ⟨m, hm⟩ := k0; exact DataW.trod_lt m _ _ _ hm
  have k1 := h1
  have lt1 : ∀ x ∈ p1, x.block < W.heap.size := by obtain ⟨m, hm⟩ := k1; exact DataW.trod_lt m _ _ _ hm
  have k2 := h2
  have lt2 : ∀ x ∈ p2, x.block < W.heap.size := by obtain ⟨m, hm⟩ := k2; exact DataW.trod_lt m _ _ _ hm
  have k3 := h3
  have lt3 : ∀ x ∈ p3, x.block < W.heap.size := by obtain ⟨m, hm⟩ := k3; exact DataW.trod_lt m _ _ _ hm
  have k4 := h4
  have lt4 : ∀ x ∈ p4, x.block < W.heap.size := by obtain ⟨m, hm⟩ := k4; exact DataW.trod_lt m _ _ _ hm
  have k5 := h5
  have lt5 : ∀ x ∈ p5, x.block < W.heap.size := by obtain ⟨m, hm⟩ := k5; exact DataW.trod_lt m _ _ _ hm
  have k6 := h6
  have lt6 : ∀ x ∈ p6, x.block < W.heap.size := by obtain ⟨m, hm⟩ := k6; exact DataW.trod_lt m _ _ _ hm
  have k7 := h7
  have lt7 : ∀ x ∈ p7, x.block < W.heap.size := by obtain ⟨m, hm⟩ := k7; exact DataW.trod_lt m _ _ _ hm
  have k8 := h8
  have lt8 : ∀ x ∈ p8, x.block < W.heap.size := by obtain ⟨m, hm⟩ := k8; exact DataW.trod_lt m _ _ _ hm
  obtain ⟨a0, rfl⟩ : ∃ n, v0 = .int .u8 n := by obtain ⟨a, e, _, _, _⟩ := open_int Yba.underlying5 (hval 0 5 v0 rfl rfl) h0; exact ⟨a, e⟩
  obtain ⟨a1, rfl⟩ : ∃ s, v1 = .string s := by obtain ⟨a, e, _, _, _⟩ := open_string Yba.underlying9 (hval 1 9 v1 rfl rfl) h1; exact ⟨a, e⟩
  obtain ⟨a2, rfl⟩ : ∃ s, v2 = .string s := by obtain ⟨a, e, _, _, _⟩ := open_string Yba.underlying9 (hval 2 9 v2 rfl rfl) h2; exact ⟨a, e⟩
  obtain ⟨a3, rfl⟩ : ∃ n, v3 = .float .f64 n := by obtain ⟨a, e, _, _, _⟩ := open_float Yba.underlying22 (hval 3 22 v3 rfl rfl) h3; exact ⟨a, e⟩
  obtain ⟨a4, rfl⟩ : ∃ n, v4 = .float .f64 n := by obtain ⟨a, e, _, _, _⟩ := open_float Yba.underlying22 (hval 4 22 v4 rfl rfl) h4; exact ⟨a, e⟩
  obtain ⟨a5, rfl⟩ : ∃ n, v5 = .float .f64 n := by obtain ⟨a, e, _, _, _⟩ := open_float Yba.underlying22 (hval 5 22 v5 rfl rfl) h5; exact ⟨a, e⟩
  obtain ⟨a6, rfl⟩ : ∃ n, v6 = .float .f64 n := by obtain ⟨a, e, _, _, _⟩ := open_float Yba.underlying22 (hval 6 22 v6 rfl rfl) h6; exact ⟨a, e⟩
  obtain ⟨a7, rfl⟩ : ∃ n, v7 = .float .f64 n := by obtain ⟨a, e, _, _, _⟩ := open_float Yba.underlying22 (hval 7 22 v7 rfl rfl) h7; exact ⟨a, e⟩
  obtain ⟨a8, rfl⟩ : ∃ n, v8 = .float .f64 n := by obtain ⟨a, e, _, _, _⟩ := open_float Yba.underlying22 (hval 8 22 v8 rfl rfl) h8; exact ⟨a, e⟩
  clear hA0 hval0
  refine (walk a0 a1 a2 a3 a4 a5 a6 a7 a8 W).mono fun e W' ⟨he, bel⟩ => ?_
  subst he
  exact ⟨_, rfl, _, _, _, [], _, [], hW', trodAll_mk1 (shut_bool Yba.underlying4 _), (trodAll_cons_mk (Below.trod laidOut (by kernel_rfl) (of_decide_eq_true (by kernel_rfl)) k0 bel lt0) (trodAll_cons_mk (Below.trod laidOut (by kernel_rfl) (of_decide_eq_true (by kernel_rfl)) k1 bel lt1) (trodAll_cons_mk (Below.trod laidOut (by kernel_rfl) (of_decide_eq_true (by kernel_rfl)) k2 bel lt2) (trodAll_cons_mk (Below.trod laidOut (by kernel_rfl) (of_decide_eq_true (by kernel_rfl)) k3 bel lt3) (trodAll_cons_mk (Below.trod laidOut (by kernel_rfl) (of_decide_eq_true (by kernel_rfl)) k4 bel lt4) (trodAll_cons_mk (Below.trod laidOut (by kernel_rfl) (of_decide_eq_true (by kernel_rfl)) k5 bel lt5) (trodAll_cons_mk (Below.trod laidOut (by kernel_rfl) (of_decide_eq_true (by kernel_rfl)) k6 bel lt6) (trodAll_cons_mk (Below.trod laidOut (by kernel_rfl) (of_decide_eq_true (by kernel_rfl)) k7 bel lt7) (trodAll_cons_mk (Below.trod laidOut (by kernel_rfl) (of_decide_eq_true (by kernel_rfl)) k8 bel lt8) trodAll_mk0))))))))), rfl, bel.frame _, fun h => by cases h⟩

theorem over : Rows.lawS5584CWholeRow.holds Yba.pinned (OpenSpec.ofChange Rows.lawS5584CWholeSpec) :=
  OpenClaim.holds_of_wide 3 Yba.f3 rfl rfl rfl rfl rfl rfl rfl ⟨rfl, rfl, rfl, rfl, rfl⟩ rfl rfl rfl rfl rfl (by kernel_rfl) Yba.func3 (by kernel_rfl)
    (of_decide_eq_true (by kernel_rfl)) (by unfold Func.isWrapper; first | (rw [if_pos (by decide +kernel)]; kernel_rfl) | (rw [if_neg (by decide +kernel)]; exact ⟨rfl, rfl⟩))
    (fun os started H enc _ => lifted os started H enc)

/-- THE STATEMENT -/
theorem proved : Rows.LawS5584CWholeSaid := over
#print axioms proved
end Go.Proofs.Ybulkdkpu.lawS5584CWhole
