/-
  The proof of 'Rows.LawS5587CWholeSaid': the frame after the kit's shell; the walk is in YbulkdkrkCWalk.lean.
-/
import Derived.Test.YbulkdkrkCOpen
namespace Go.Proofs.Ybulkdkrk.lawS5587CWhole
open Go.ChangeShapes Go.WideShapes Go.ChangeAt Go.RowKit

theorem own : ownKnob Yba.prog.godebug = none := by kernel_rfl
theorem laidOut : laidOutB Yba.prog = true := by kernel_rfl
theorem bytes5 : Yba.prog.bytesOf 5 = 1 := by kernel_rfl
theorem bytes50 : Yba.prog.bytesOf 50 = 24 := by kernel_rfl

set_option maxRecDepth 100000 in
set_option maxHeartbeats 1000000 in
theorem lifted (os : Os) (started : os.Started) (H : Type) (enc : TypeId × Value → H) :
    ReturnsInHanded {} Yba.checked os 4 .any (Rows.lawS5587CWholeSpec.pre6 enc Yba.prog Yba.f4 Rows.lawS5587CWholeRow.domain false) (Rows.lawS5587CWholeSpec.post enc Yba.prog Yba.f4 false true false false) := by
  refine returnsInHanded_of_change_sized (C := Yba.checked) own started (by kernel_rfl) Yba.func4
    (ChangeSpec.witness6 (enc := enc) (C := Yba.checked) false ⟨#[], #[.slice none 0 0, .int .u8 0, .int .u8 0, .int .i64 0, .bool false, .bool false, .agg #[.int .u8 0, .int .i64 0, .int .i64 0], .slice none 0 0, .slice none 0 0, .slice none 0 0], []⟩ 8 (by kernel_rfl) (by kernel_rfl) (by kernel_rfl) (by kernel_rfl)) ?_
  intro W base args ds gs before hval0 hW hcnd hsz0 _
  have hval : ∀ (j : Nat) t v, Yba.f4.params[j]? = some t → args[j]? = some v → Value.okWide Yba.prog W .any base t v := hval0
  have hsz : (DataW.weightsEach Yba.prog (Yba.f4.params.toList ++ Rows.lawS5587CWholeSpec.plain.varTypes Yba.prog) (ds ++ gs)).all (· ≤ reachBytes) = true := hsz0
  have hW' := hW
  obtain ⟨p, q, hA0, hV, rfl, hfz, hnd⟩ := hW
  have hA : DataW.TrodAll enc Yba.prog W 0 (fun _ => true) true Yba.f4.params.toList args.toList ds p := hA0
  rw [Yba.params4] at hA hval hsz
  obtain ⟨v0, vs0, d0, ds0, p0, q0, hargs, rfl, rfl, h0, r0⟩ := trodAll_cons hA
  obtain ⟨v1, vs1, d1, ds1, p1, q1, rfl, rfl, rfl, h1, r1⟩ := trodAll_cons r0
  obtain ⟨v2, vs2, d2, ds2, p2, q2, rfl, rfl, rfl, h2, r2⟩ := trodAll_cons r1
  obtain ⟨v3, vs3, d3, ds3, p3, q3, rfl, rfl, rfl, h3, r3⟩ := trodAll_cons r2
  obtain ⟨v4, vs4, d4, ds4, p4, q4, rfl, rfl, rfl, h4, r4⟩ := trodAll_cons r3
  obtain ⟨v5, vs5, d5, ds5, p5, q5, rfl, rfl, rfl, h5, r5⟩ := trodAll_cons r4
  obtain ⟨v6, vs6, d6, ds6, p6, q6, rfl, rfl, rfl, h6, r6⟩ := trodAll_cons r5
  obtain ⟨v7, vs7, d7, ds7, p7, q7, rfl, rfl, rfl, h7, r7⟩ := trodAll_cons r6
  obtain ⟨v8, vs8, d8, ds8, p8, q8, rfl, rfl, rfl, h8, r8⟩ := trodAll_cons r7
  obtain ⟨v9, vs9, d9, ds9, p9, q9, rfl, rfl, rfl, h9, r9⟩ := trodAll_cons r8
  obtain ⟨rfl, rfl, rfl⟩ := trodAll_nil r9
  obtain rfl : args = #[v0, v1, v2, v3, v4, v5, v6, v7, v8, v9] := by cases args; simp_all
  obtain ⟨rfl, rfl⟩ := trodVars_none hV
  have k0 := h0
  have lt0 : ∀ x ∈ p0, x.block < W.heap.size := by obtain ⟨m, hm⟩ := k0; exact DataW.trod_lt m _ _ _ hm
  have k1 := h1
  have lt1 : ∀ x ∈ p1, x.block < W.heap.size := by obtain ⟨m, hm⟩ := k1; exact DataW.trod_lt m _ _ _ hm
  have k2 := h2
  have lt2 : ∀ x ∈ p2, x.block < W.heap.size := by obtain ⟨m, hm⟩ := k2; exact DataW.trod_lt m _ _ _ hm
  have k3 := h3
  have lt3 : ∀ x ∈ p3, x.block < W.heap.size := by obtain ⟨m, hm⟩ := k3; exact DataW.trod_lt m _ _ _ hm
  have k4 := h4
  have lt4 : ∀ x ∈ p4, x.block < W.heap.size := by obtain ⟨m, hm⟩ := k4; exact DataW.trod_lt m _ _ _ hm
  have k5 := h5
  have lt5 : ∀ x ∈ p5, x.block < W.heap.size := by obtain ⟨m, hm⟩ := k5; exact DataW.trod_lt m _ _ _ hm
  have k6 := h6
  have lt6 : ∀ x ∈ p6, x.block < W.heap.size := by obtain ⟨m, hm⟩ := k6; exact DataW.trod_lt m _ _ _ hm
  have k7 := h7
  have lt7 : ∀ x ∈ p7, x.block < W.heap.size := by obtain ⟨m, hm⟩ := k7; exact DataW.trod_lt m _ _ _ hm
  have k8 := h8
  have lt8 : ∀ x ∈ p8, x.block < W.heap.size := by obtain ⟨m, hm⟩ := k8; exact DataW.trod_lt m _ _ _ hm
  have k9 := h9
  have lt9 : ∀ x ∈ p9, x.block < W.heap.size := by obtain ⟨m, hm⟩ := k9; exact DataW.trod_lt m _ _ _ hm
  obtain ⟨a0, len0, cap0, rfl⟩ := okWide_slice Yba.underlying48 (hval 0 48 v0 rfl rfl)
  obtain ⟨⟨b0, o0, I0, hB0⟩, hlen0⟩ : (∃ b off I, Bts W a0 len0 b off I) ∧ (len0 = 0 ∨ ∃ elems sp, d0 = .slice elems sp ∧ elems.length = len0) := by obtain ⟨fuel, hf⟩ := h0; exact open_bts (by simpa [Value.cells] using hf)
  have hn0 : len0 ≤ 1152921504606846976 := by
    rcases hlen0 with h | ⟨el, sp, rfl, h⟩
    · omega
    · have h1 := sized_slice hsz (j := 0) rfl rfl Yba.underlying48
      rw [bytes5] at h1
      have h2 := reachBytes_lt
      omega
  obtain ⟨nd, rfl, bnd⟩ : ∃ n : Nat, v1 = .int .u8 (n : Int) ∧ n ≤ 255 := by obtain ⟨a, e, _, _, wf⟩ := open_int Yba.underlying5 (hval 1 5 v1 rfl rfl) h1; have hb := bd8 wf; exact ⟨a.toNat, by rw [e]; congr 1; omega, by omega⟩
  obtain ⟨xb, rfl, bxb⟩ : ∃ n : Nat, v2 = .int .u8 (n : Int) ∧ n ≤ 255 := by obtain ⟨a, e, _, _, wf⟩ := open_int Yba.underlying5 (hval 2 5 v2 rfl rfl) h2; have hb := bd8 wf; exact ⟨a.toNat, by rw [e]; congr 1; omega, by omega⟩
  obtain ⟨ll, rfl, bll⟩ : ∃ n : Int, v3 = .int .i64 n ∧ (-9223372036854775808 ≤ n ∧ n ≤ 9223372036854775807) := by obtain ⟨a, e, _, _, wf⟩ := open_int Yba.underlying3 (hval 3 3 v3 rfl rfl) h3; exact ⟨a, e, bdi64 wf⟩
  obtain ⟨two, rfl⟩ : ∃ b : Bool, v4 = .bool b := by obtain ⟨a, e, _⟩ := open_bool Yba.underlying4 (hval 4 4 v4 rfl rfl) h4; exact ⟨a, e⟩
  obtain ⟨ss, rfl⟩ : ∃ b : Bool, v5 = .bool b := by obtain ⟨a, e, _⟩ := open_bool Yba.underlying4 (hval 5 4 v5 rfl rfl) h5; exact ⟨a, e⟩
  obtain ⟨pC, pN, pK, rfl, bpC⟩ := open50 (hval 6 50 v6 rfl rfl) h6
  obtain ⟨a7, len7, cap7, rfl⟩ := okWide_slice Yba.underlying51 (hval 7 51 v7 rfl rfl)
  obtain ⟨⟨b7, o7, C7, N7, K7, hS7⟩, hlen7⟩ : (∃ b off C N K, Src W a7 len7 b off C N K) ∧ (len7 = 0 ∨ ∃ elems sp, d7 = .slice elems sp ∧ elems.length = len7) := by obtain ⟨fuel, hf⟩ := h7; exact open_src (by simpa [Value.cells] using hf)
  have hn7 : len7 ≤ 1152921504606846976 := by
    rcases hlen7 with h | ⟨el, sp, rfl, h⟩
    · omega
    · have h1 := sized_slice hsz (j := 7) rfl rfl Yba.underlying51
      rw [bytes50] at h1
      have h2 := reachBytes_lt
      omega
  obtain ⟨a8, len8, cap8, rfl⟩ := okWide_slice Yba.underlying51 (hval 8 51 v8 rfl rfl)
  obtain ⟨⟨b8, o8, C8, N8, K8, hS8⟩, hlen8⟩ : (∃ b off C N K, Src W a8 len8 b off C N K) ∧ (len8 = 0 ∨ ∃ elems sp, d8 = .slice elems sp ∧ elems.length = len8) := by obtain ⟨fuel, hf⟩ := h8; exact open_src (by simpa [Value.cells] using hf)
  have hn8 : len8 ≤ 1152921504606846976 := by
    rcases hlen8 with h | ⟨el, sp, rfl, h⟩
    · omega
    · have h1 := sized_slice hsz (j := 8) rfl rfl Yba.underlying51
      rw [bytes50] at h1
      have h2 := reachBytes_lt
      omega
  obtain ⟨a9, len9, cap9, rfl⟩ := okWide_slice Yba.underlying51 (hval 9 51 v9 rfl rfl)
  obtain ⟨⟨b9, o9, C9, N9, K9, hS9⟩, hlen9⟩ : (∃ b off C N K, Src W a9 len9 b off C N K) ∧ (len9 = 0 ∨ ∃ elems sp, d9 = .slice elems sp ∧ elems.length = len9) := by obtain ⟨fuel, hf⟩ := h9; exact open_src (by simpa [Value.cells] using hf)
  have hn9 : len9 ≤ 1152921504606846976 := by
    rcases hlen9 with h | ⟨el, sp, rfl, h⟩
    · omega
    · have h1 := sized_slice hsz (j := 9) rfl rfl Yba.underlying51
      rw [bytes50] at h1
      have h2 := reachBytes_lt
      omega
  clear hA0 hval0 hsz0
  refine (walk W a0 len0 cap0 b0 o0 I0 hB0 hn0 nd xb ll two ss pC pN pK bpC bnd bxb bll.1 bll.2 a7 len7 cap7 b7 o7 C7 N7 K7 hS7 hn7 a8 len8 cap8 b8 o8 C8 N8 K8 hS8 hn8 a9 len9 cap9 b9 o9 C9 N9 K9 hS9 hn9).mono fun e W' ⟨he, bel⟩ => ?_
  subst he
  exact ⟨_, rfl, _, _, _, [], _, [], hW', trodAll_mk1 (shut_bool Yba.underlying4 _), (trodAll_cons_mk (Below.trod laidOut (by kernel_rfl) (of_decide_eq_true (by kernel_rfl)) k0 bel lt0) (trodAll_cons_mk (Below.trod laidOut (by kernel_rfl) (of_decide_eq_true (by kernel_rfl)) k1 bel lt1) (trodAll_cons_mk (Below.trod laidOut (by kernel_rfl) (of_decide_eq_true (by kernel_rfl)) k2 bel lt2) (trodAll_cons_mk (Below.trod laidOut (by kernel_rfl) (of_decide_eq_true (by kernel_rfl)) k3 bel lt3) (trodAll_cons_mk (Below.trod laidOut (by kernel_rfl) (of_decide_eq_true (by kernel_rfl)) k4 bel lt4) (trodAll_cons_mk (Below.trod laidOut (by kernel_rfl) (of_decide_eq_true (by kernel_rfl)) k5 bel lt5) (trodAll_cons_mk (Below.trod laidOut (by kernel_rfl) (of_decide_eq_true (by kernel_rfl)) k6 bel lt6) (trodAll_cons_mk (Below.trod laidOut (by kernel_rfl) (of_decide_eq_true (by kernel_rfl)) k7 bel lt7) (trodAll_cons_mk (Below.trod laidOut (by kernel_rfl) (of_decide_eq_true (by kernel_rfl)) k8 bel lt8) (trodAll_cons_mk (Below.trod laidOut (by kernel_rfl) (of_decide_eq_true (by kernel_rfl)) k9 bel lt9) trodAll_mk0)))))))))), rfl, bel.frame _, fun h => by cases h⟩

theorem over : Rows.lawS5587CWholeRow.holds Yba.pinned (OpenSpec.ofChange Rows.lawS5587CWholeSpec) :=
  OpenClaim.holds_of_wide 4 Yba.f4 rfl rfl rfl rfl rfl rfl rfl ⟨rfl, rfl, rfl, rfl, rfl⟩ rfl rfl rfl rfl rfl (by kernel_rfl) Yba.func4 (by kernel_rfl)
    (of_decide_eq_true (by kernel_rfl)) (by unfold Func.isWrapper; first | (rw [if_pos (by decide +kernel)]; kernel_rfl) | (rw [if_neg (by decide +kernel)]; exact ⟨rfl, rfl⟩))
    (fun os started H enc _ => lifted os started H enc)

/-- THE STATEMENT -/
theorem proved : Rows.LawS5587CWholeSaid := over
#print axioms proved
end Go.Proofs.Ybulkdkrk.lawS5587CWhole
