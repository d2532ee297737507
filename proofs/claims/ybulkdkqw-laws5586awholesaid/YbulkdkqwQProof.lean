/-
  The proof of 'Rows.LawS5586AWholeSaid': the frame after the kit's shell; the walk is in YbulkdkqwQWalk.lean.
-/
import Derived.Test.YbulkdkqwQWalk
import Derived.Test.YbulkdkqwQOpen
namespace Go.Proofs.Ybulkdkqw.lawS5586AWhole
open Go.ChangeShapes Go.WideShapes Go.ChangeAt Go.RowKit

theorem own : ownKnob Yba.prog.godebug = none := by kernel_rfl
theorem laidOut : laidOutB Yba.prog = true := by kernel_rfl
theorem bytes22 : Yba.prog.bytesOf 22 = 8 := by kernel_rfl
theorem bytes43 : Yba.prog.bytesOf 43 = 16 := by kernel_rfl
theorem bytes49 : Yba.prog.bytesOf 49 = 16 := by kernel_rfl
theorem bytes53 : Yba.prog.bytesOf 53 = 40 := by kernel_rfl

set_option maxRecDepth 100000 in
set_option maxHeartbeats 1000000 in
theorem lifted (os : Os) (started : os.Started) (H : Type) (enc : TypeId × Value → H) :
    ReturnsInHanded {} Yba.checked os 3 .any (Rows.lawS5586AWholeSpec.pre6 enc Yba.prog Yba.f3 Rows.lawS5586AWholeRow.domain false) (Rows.lawS5586AWholeSpec.post enc Yba.prog Yba.f3 false true false false) := by
  refine returnsInHanded_of_change_sized (C := Yba.checked) own started (by kernel_rfl) Yba.func3
    (ChangeSpec.witness6 (enc := enc) (C := Yba.checked) false ⟨#[], #[.int .u64 0, .slice none 0 0, .slice none 0 0, .int .u64 0, .slice none 0 0, .slice none 0 0], []⟩ 8 (by kernel_rfl) (by kernel_rfl) (by kernel_rfl) (by kernel_rfl)) ?_
  intro W base args ds gs before hval0 hW hcnd hsz0 _
  have hval : ∀ (j : Nat) t v, Yba.f3.params[j]? = some t → args[j]? = some v → Value.okWide Yba.prog W .any base t v := hval0
  have hsz : (DataW.weightsEach Yba.prog (Yba.f3.params.toList ++ Rows.lawS5586AWholeSpec.plain.varTypes Yba.prog) (ds ++ gs)).all (· ≤ reachBytes) = true := hsz0
  have hW' := hW
  obtain ⟨p, q, hA0, hV, rfl, hfz, hnd⟩ := hW
  have hA : DataW.TrodAll enc Yba.prog W 0 (fun _ => true) true Yba.f3.params.toList args.toList ds p := hA0
  rw [Yba.params3] at hA hval hsz
  obtain ⟨v0, vs0, d0, ds0, p0, q0, hargs, rfl, rfl, h0, r0⟩ := trodAll_cons hA
  obtain ⟨v1, vs1, d1, ds1, p1, q1, rfl, rfl, rfl, h1, r1⟩ := trodAll_cons r0
  obtain ⟨v2, vs2, d2, ds2, p2, q2, rfl, rfl, rfl, h2, r2⟩ := trodAll_cons r1
  obtain ⟨v3, vs3, d3, ds3, p3, q3, rfl, rfl, rfl, h3, r3⟩ := trodAll_cons r2
  obtain ⟨v4, vs4, d4, ds4, p4, q4, rfl, rfl, rfl, h4, r4⟩ := trodAll_cons r3
  obtain ⟨v5, vs5, d5, ds5, p5, q5, rfl, rfl, rfl, h5, r5⟩ := trodAll_cons r4
  obtain ⟨rfl, rfl, rfl⟩ := trodAll_nil r5
  obtain rfl : args = #[v0, v1, v2, v3, v4, v5] := by cases args; simp_all
  obtain ⟨rfl, rfl⟩ := trodVars_none hV
  have k0 := h0
  have lt0 : ∀ x ∈ p0, x.block < W.heap.size := by obtain ⟨m, hm⟩ := k0; exact DataW.trod_lt m _ _ _ hm
  have k1 := h1
  have lt1 : ∀ x ∈ p1, x.block < W.heap.size := by obtain ⟨m, hm⟩ := k1; exact DataW.trod_lt m _ _ _ hm
  have k2 := h2
  have lt2 : ∀ x ∈ p2, x.block < W.heap.size := by obtain ⟨m, hm⟩ := k2; exact DataW.trod_lt m _ _ _ hm
  have k3 := h3
  have lt3 : ∀ x ∈ p3, x.block < W.heap.size := by obtain ⟨m, hm⟩ := k3; exact DataW.trod_lt m _ _ _ hm
  have k4 := h4
  have lt4 : ∀ x ∈ p4, x.block < W.heap.size := by obtain ⟨m, hm⟩ := k4; exact DataW.trod_lt m _ _ _ hm
  have k5 := h5
  have lt5 : ∀ x ∈ p5, x.block < W.heap.size := by obtain ⟨m, hm⟩ := k5; exact DataW.trod_lt m _ _ _ hm
  obtain ⟨sf, rfl, hsf⟩ : ∃ n : Int, v0 = .int .u64 n ∧ U n := by obtain ⟨a, e, _, _, wf⟩ := open_int Yba.underlying22 (hval 0 22 v0 rfl rfl) h0; exact ⟨a, e, bd64 wf⟩
  obtain ⟨us, rfl, hus⟩ : ∃ n : Int, v3 = .int .u64 n ∧ U n := by obtain ⟨a, e, _, _, wf⟩ := open_int Yba.underlying22 (hval 3 22 v3 rfl rfl) h3; exact ⟨a, e, bd64 wf⟩
  obtain ⟨a1, len1, cap1, rfl⟩ := okWide_slice Yba.underlying23 (hval 1 23 v1 rfl rfl)
  obtain ⟨⟨pls, hL1, hok1, hI1⟩, hlen1⟩ : (∃ L : List (Int × Int), L.length = len1 ∧ (∀ x ∈ L, U x.1 ∧ 0 ≤ x.2 ∧ x.2 ≤ 255) ∧ In E43 W W.heap.size a1 L) ∧ (len1 = 0 ∨ ∃ elems sp, d1 = .slice elems sp ∧ elems.length = len1) := by obtain ⟨fuel, hf⟩ := h1; exact open_pls (by simpa [Value.cells] using hf)
  have hn1 : len1 ≤ 1152921504606846976 := by
    rcases hlen1 with h | ⟨el, sp, rfl, h⟩
    · omega
    · have h1 := sized_slice hsz (j := 1) rfl rfl Yba.underlying23
      rw [bytes43] at h1
      have h2 := reachBytes_lt
      omega
  obtain ⟨a2, len2, cap2, rfl⟩ := okWide_slice Yba.underlying24 (hval 2 24 v2 rfl rfl)
  obtain ⟨⟨unm, hL2, hok2, hI2⟩, hlen2⟩ : (∃ L : List Int, L.length = len2 ∧ (∀ x ∈ L, U x) ∧ In E64 W W.heap.size a2 L) ∧ (len2 = 0 ∨ ∃ elems sp, d2 = .slice elems sp ∧ elems.length = len2) := by obtain ⟨fuel, hf⟩ := h2; exact open_unm (by simpa [Value.cells] using hf)
  have hn2 : len2 ≤ 1152921504606846976 := by
    rcases hlen2 with h | ⟨el, sp, rfl, h⟩
    · omega
    · have h1 := sized_slice hsz (j := 2) rfl rfl Yba.underlying24
      rw [bytes22] at h1
      have h2 := reachBytes_lt
      omega
  obtain ⟨a4, len4, cap4, rfl⟩ := okWide_slice Yba.underlying25 (hval 4 25 v4 rfl rfl)
  obtain ⟨⟨prs, hL4, hok4, hI4⟩, hlen4⟩ : (∃ L : List (Int × Int), L.length = len4 ∧ (∀ x ∈ L, U x.1) ∧ In EP W W.heap.size a4 L) ∧ (len4 = 0 ∨ ∃ elems sp, d4 = .slice elems sp ∧ elems.length = len4) := by obtain ⟨fuel, hf⟩ := h4; exact open_prs (by simpa [Value.cells] using hf)
  have hn4 : len4 ≤ 1152921504606846976 := by
    rcases hlen4 with h | ⟨el, sp, rfl, h⟩
    · omega
    · have h1 := sized_slice hsz (j := 4) rfl rfl Yba.underlying25
      rw [bytes49] at h1
      have h2 := reachBytes_lt
      omega
  obtain ⟨a5, len5, cap5, rfl⟩ := okWide_slice Yba.underlying26 (hval 5 26 v5 rfl rfl)
  obtain ⟨⟨evs, hL5, hok5, hI5⟩, hlen5⟩ : (∃ L : List Ev, L.length = len5 ∧ (∀ x ∈ L, x.ok) ∧ In E53 W W.heap.size a5 L) ∧ (len5 = 0 ∨ ∃ elems sp, d5 = .slice elems sp ∧ elems.length = len5) := by obtain ⟨fuel, hf⟩ := h5; exact open_evs (by simpa [Value.cells] using hf)
  have hn5 : len5 ≤ 1152921504606846976 := by
    rcases hlen5 with h | ⟨el, sp, rfl, h⟩
    · omega
    · have h1 := sized_slice hsz (j := 5) rfl rfl Yba.underlying26
      rw [bytes53] at h1
      have h2 := reachBytes_lt
      omega
  clear hA0 hval0 hsz0
  subst hL1 hL2 hL4 hL5
  refine (walk W sf us hsf hus a1 pls cap1 hI1 hok1 hn1 a2 unm cap2 hI2 hok2 hn2 a4 prs cap4 hI4 hok4 hn4 a5 evs cap5 hI5 hok5 hn5).mono fun e W' ⟨he, bel⟩ => ?_
  subst he
  exact ⟨_, rfl, _, _, _, [], _, [], hW', trodAll_mk1 (shut_bool Yba.underlying4 _), (trodAll_cons_mk (Below.trod laidOut (by kernel_rfl) (of_decide_eq_true (by kernel_rfl)) k0 bel lt0) (trodAll_cons_mk (Below.trod laidOut (by kernel_rfl) (of_decide_eq_true (by kernel_rfl)) k1 bel lt1) (trodAll_cons_mk (Below.trod laidOut (by kernel_rfl) (of_decide_eq_true (by kernel_rfl)) k2 bel lt2) (trodAll_cons_mk (Below.trod laidOut (by kernel_rfl) (of_decide_eq_true (by kernel_rfl)) k3 bel lt3) (trodAll_cons_mk (Below.trod laidOut (by kernel_rfl) (of_decide_eq_true (by kernel_rfl)) k4 bel lt4) (trodAll_cons_mk (Below.trod laidOut (by kernel_rfl) (of_decide_eq_true (by kernel_rfl)) k5 bel lt5) trodAll_mk0)))))), rfl, bel.frame _, fun h => by cases h⟩

theorem over : Rows.lawS5586AWholeRow.holds Yba.pinned (OpenSpec.ofChange Rows.lawS5586AWholeSpec) :=
  OpenClaim.holds_of_wide 3 Yba.f3 rfl rfl rfl rfl rfl rfl rfl ⟨rfl, rfl, rfl, rfl, rfl⟩ rfl rfl rfl rfl rfl (by kernel_rfl) Yba.func3 (by kernel_rfl)
    (of_decide_eq_true (by kernel_rfl)) (by unfold Func.isWrapper; first | (rw [if_pos (by decide +kernel)]; kernel_rfl) | (rw [if_neg (by decide +kernel)]; exact ⟨rfl, rfl⟩))
    (fun os started H enc _ => lifted os started H enc)

/-- THE STATEMENT -/
theorem proved : Rows.LawS5586AWholeSaid := over
#print axioms proved
end Go.Proofs.Ybulkdkqw.lawS5586AWhole
