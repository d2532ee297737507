/-
  The proof of 'Rows.LawS5587AWholeSaid': the frame after the kit's shell; the walk is in YbulkdkrkAWalk.lean.
-/
import Derived.Test.YbulkdkrkAOpen
namespace Go.Proofs.Ybulkdkrk.lawS5587AWhole
open Go.ChangeShapes Go.WideShapes Go.ChangeAt Go.RowKit

theorem own : ownKnob Yba.prog.godebug = none := by kernel_rfl
theorem laidOut : laidOutB Yba.prog = true := by kernel_rfl

set_option maxRecDepth 100000 in
theorem lifted (os : Os) (started : os.Started) (H : Type) (enc : TypeId × Value → H) :
    ReturnsInHanded {} Yba.checked os 3 .any (Rows.lawS5587AWholeSpec.pre6 enc Yba.prog Yba.f3 Rows.lawS5587AWholeRow.domain false) (Rows.lawS5587AWholeSpec.post enc Yba.prog Yba.f3 false true false false) := by
  refine returnsInHanded_of_change (C := Yba.checked) own started (by kernel_rfl) Yba.func3
    (ChangeSpec.witness6 (enc := enc) (C := Yba.checked) false ⟨#[], #[.slice none 0 0, .slice none 0 0, .int .u64 0, .int .u64 0, .int .u64 0, .int .i64 0, .int .u8 0, .agg #[.int .i64 0, .int .u64 0, .int .u64 0, .bool false], .agg #[.int .u64 0, .int .u16 0, .int .i64 0, .int .u64 0, .bool false]], []⟩ 8 (by kernel_rfl) (by kernel_rfl) (by kernel_rfl) (by kernel_rfl)) ?_
  intro W base args ds gs before hval0 hW hcnd _
  have hval : ∀ (j : Nat) t v, Yba.f3.params[j]? = some t → args[j]? = some v → Value.okWide Yba.prog W .any base t v := hval0
  have hW' := hW
  obtain ⟨p, q, hA0, hV, rfl, hfz, hnd⟩ := hW
  have hA : DataW.TrodAll enc Yba.prog W 0 (fun _ => true) true Yba.f3.params.toList args.toList ds p := hA0
  rw [Yba.params3] at hA hval
  obtain ⟨v0, vs0, d0, ds0, p0, q0, hargs, rfl, rfl, h0, r0⟩ := trodAll_cons hA
  obtain ⟨v1, vs1, d1, ds1, p1, q1, rfl, rfl, rfl, h1, r1⟩ := trodAll_cons r0
  obtain ⟨v2, vs2, d2, ds2, p2, q2, rfl, rfl, rfl, h2, r2⟩ := trodAll_cons r1
  obtain ⟨v3, vs3, d3, ds3, p3, q3, rfl, rfl, rfl, h3, r3⟩ := trodAll_cons r2
  obtain ⟨v4, vs4, d4, ds4, p4, q4, rfl, rfl, rfl, h4, r4⟩ := trodAll_cons r3
  obtain ⟨v5, vs5, d5, ds5, p5, q5, rfl, rfl, rfl, h5, r5⟩ := trodAll_cons r4
  obtain ⟨v6, vs6, d6, ds6, p6, q6, rfl, rfl, rfl, h6, r6⟩ := trodAll_cons r5
  obtain ⟨v7, vs7, d7, ds7, p7, q7, rfl, rfl, rfl, h7, r7⟩ := trodAll_cons r6
  obtain ⟨v8, vs8, d8, ds8, p8, q8, rfl, rfl, rfl, h8, r8⟩ := trodAll_cons r7
  obtain ⟨rfl, rfl, rfl⟩ := trodAll_nil r8
  obtain rfl : args = #[v0, v1, v2, v3, v4, v5, v6, v7, v8] := by cases args; simp_all
  obtain ⟨rfl, rfl⟩ := trodVars_none hV
  have k0 := h0
  have lt0 : ∀ x ∈ p0, x.block < W.heap.size := by obtain ⟨m, hm⟩ := k0; exact DataW.trod_lt m _ _ _ hm
  have k1 := h1
  have lt1 : ∀ x ∈ p1, x.block < W.heap.size := by obtain ⟨m, hm⟩ := k1; exact DataW.trod_lt m _ _ _ hm
  have k2 := h2
  have lt2 : ∀ x ∈ p2, x.block < W.heap.size := by obtain ⟨m, hm⟩ := k2; exact DataW.trod_lt m _ _ _ hm
  have k3 := h3
  have lt3 : ∀ x ∈ p3, x.block < W.heap.size := by obtain ⟨m, hm⟩ := k3; exact DataW.trod_lt m _ _ _ hm
  have k4 := h4
  have lt4 : ∀ x ∈ p4, x.block < W.heap.size := by obtain ⟨m, hm⟩ := k4; exact DataW.trod_lt m _ _ _ hm
  have k5 := h5
  have lt5 : ∀ x ∈ p5, x.block < W.heap.size := by obtain ⟨m, hm⟩ := k5; exact DataW.trod_lt m _ _ _ hm
  have k6 := h6
  have lt6 : ∀ x ∈ p6, x.block < W.heap.size := by obtain ⟨m, hm⟩ := k6; exact DataW.trod_lt m _ _ _ hm
  have k7 := h7
  have lt7 : ∀ x ∈ p7, x.block < W.heap.size := by obtain ⟨m, hm⟩ := k7; exact DataW.trod_lt m _ _ _ hm
  have k8 := h8
  have lt8 : ∀ x ∈ p8, x.block < W.heap.size := by obtain ⟨m, hm⟩ := k8; exact DataW.trod_lt m _ _ _ hm
  obtain ⟨a0, len0, cap0, rfl⟩ := okWide_slice Yba.underlying22 (hval 0 22 v0 rfl rfl)
  obtain ⟨eb0, off0, G0, S0, L0, hE0⟩ : ∃ b off G S L, Ents W a0 len0 b off G S L := by obtain ⟨fuel, hf⟩ := h0; exact open_ents (by simpa [Value.cells] using hf)
  obtain ⟨a1, len1, cap1, rfl⟩ := okWide_slice Yba.underlying22 (hval 1 22 v1 rfl rfl)
  obtain ⟨eb1, off1, G1, S1, L1, hE1⟩ : ∃ b off G S L, Ents W a1 len1 b off G S L := by obtain ⟨fuel, hf⟩ := h1; exact open_ents (by simpa [Value.cells] using hf)
  obtain ⟨a2, rfl⟩ : ∃ n, v2 = .int .u64 n := by obtain ⟨a, e, _, _, _⟩ := open_int Yba.underlying23 (hval 2 23 v2 rfl rfl) h2; exact ⟨a, e⟩
  obtain ⟨a3, rfl⟩ : ∃ n, v3 = .int .u64 n := by obtain ⟨a, e, _, _, _⟩ := open_int Yba.underlying23 (hval 3 23 v3 rfl rfl) h3; exact ⟨a, e⟩
  obtain ⟨a4, rfl⟩ : ∃ n, v4 = .int .u64 n := by obtain ⟨a, e, _, _, _⟩ := open_int Yba.underlying23 (hval 4 23 v4 rfl rfl) h4; exact ⟨a, e⟩
  obtain ⟨a5, rfl⟩ : ∃ n, v5 = .int .i64 n := by obtain ⟨a, e, _, _, _⟩ := open_int Yba.underlying3 (hval 5 3 v5 rfl rfl) h5; exact ⟨a, e⟩
  obtain ⟨a6, rfl, b6⟩ : ∃ n, v6 = .int .u8 n ∧ 0 ≤ n ∧ n ≤ 255 := by obtain ⟨a, e, _, _, wf⟩ := open_int Yba.underlying5 (hval 6 5 v6 rfl rfl) h6; exact ⟨a, e, bd8 wf⟩
  obtain ⟨sN, sR, sG, sO, rfl⟩ := open25 (hval 7 25 v7 rfl rfl) h7
  obtain ⟨oI, oP, oL, oA, oH, rfl, hP0, hP1⟩ := open28 (hval 8 28 v8 rfl rfl) h8
  clear hA0 hval0
  refine (walk a0 len0 cap0 eb0 off0 G0 S0 L0 a1 len1 cap1 eb1 off1 G1 S1 L1 a2 a3 a4 a5 a6 sN sR sG oI oP oL oA sO oH W hE0 hE1 b6.1 b6.2 hP0 hP1).mono fun e W' ⟨he, bel⟩ => ?_
  subst he
  exact ⟨_, rfl, _, _, _, [], _, [], hW', trodAll_mk1 (shut_bool Yba.underlying4 _), (trodAll_cons_mk (Below.trod laidOut (by kernel_rfl) (of_decide_eq_true (by kernel_rfl)) k0 bel lt0) (trodAll_cons_mk (Below.trod laidOut (by kernel_rfl) (of_decide_eq_true (by kernel_rfl)) k1 bel lt1) (trodAll_cons_mk (Below.trod laidOut (by kernel_rfl) (of_decide_eq_true (by kernel_rfl)) k2 bel lt2) (trodAll_cons_mk (Below.trod laidOut (by kernel_rfl) (of_decide_eq_true (by kernel_rfl)) k3 bel lt3) (trodAll_cons_mk (Below.trod laidOut (by kernel_rfl) (of_decide_eq_true (by kernel_rfl)) k4 bel lt4) (trodAll_cons_mk (Below.trod laidOut (by kernel_rfl) (of_decide_eq_true (by kernel_rfl)) k5 bel lt5) (trodAll_cons_mk (Below.trod laidOut (by kernel_rfl) (of_decide_eq_true (by kernel_rfl)) k6 bel lt6) (trodAll_cons_mk (Below.trod laidOut (by kernel_rfl) (of_decide_eq_true (by kernel_rfl)) k7 bel lt7) (trodAll_cons_mk (Below.trod laidOut (by kernel_rfl) (of_decide_eq_true (by kernel_rfl)) k8 bel lt8) trodAll_mk0))))))))), rfl, bel.frame _, fun h => by cases h⟩

theorem over : Rows.lawS5587AWholeRow.holds Yba.pinned (OpenSpec.ofChange Rows.lawS5587AWholeSpec) :=
  OpenClaim.holds_of_wide 3 Yba.f3 rfl rfl rfl rfl rfl rfl rfl ⟨rfl, rfl, rfl, rfl, rfl⟩ rfl rfl rfl rfl rfl (by kernel_rfl) Yba.func3 (by kernel_rfl)
    (of_decide_eq_true (by kernel_rfl)) (by unfold Func.isWrapper; first | (rw [if_pos (by decide +kernel)]; kernel_rfl) | (rw [if_neg (by decide +kernel)]; exact ⟨rfl, rfl⟩))
    (fun os started H enc _ => lifted os started H enc)

/-- THE STATEMENT -/
theorem proved : Rows.LawS5587AWholeSaid := over
#print axioms proved
end Go.Proofs.Ybulkdkrk.lawS5587AWhole
