import Derived.Test.YbulkdkrkCFind
import Derived.LaidEqlPtr
namespace Go.Proofs.Ybulkdkrk.lawS5587CWhole
open Go.ChangeShapes Go.WideShapes Go.ChangeAt Go.RowKit Go.Proofs.Ybulkdkrk.lawS5587AWhole

theorem info59 : (Yba.prog.info? 59).map (·.size) = some 6 := by kernel_rfl

theorem eq_ptr {ID : Nat → Int} {a b : Nat} {w : World} (ha : Known w ID a) (hb : Known w ID b) (d : Nat) :
    (Op.equalIn (d + 1) 53 (.pointer (some ⟨a, 0, none⟩)) (.pointer (some ⟨b, 0, none⟩))).run Yba.prog w = .ok (a == b) w := by
  cases hj : Yba.prog.info? 59 with
  | none => have := info59; simp [hj] at this
  | some j =>
    have hs : j.size = 6 := by have := info59; simpa [hj] using this
    by_cases e : a = b
    · subst e
      simp [Op.equalIn, run_underlying Yba.underlying53, sizeOf, typeInfo, hj, run_sameAddr_same]
    · obtain ⟨ca, h1, _⟩ := ha
      obtain ⟨cb, h2, _⟩ := hb
      have hne : (⟨a, 0, none⟩ : Addr) ≠ ⟨b, 0, none⟩ := fun h => e (by injection h)
      have hs0 := run_sameAddr_other (P := Yba.prog) w hne h1 h2
      simp [Op.equalIn, run_underlying Yba.underlying53, sizeOf, typeInfo, hj, hs, hs0, e]

theorem fields64 : Yba.prog.fieldsOf 64 = #[{ name := "node", type := 3, offset := 0, embedded := false, tag := "", pkgPath := "example.com/evenkeel/evenkeel/internal/sim", byteOffset := 0 }, { name := "c", type := 53, offset := 1, embedded := false, tag := "", pkgPath := "example.com/evenkeel/evenkeel/internal/sim", byteOffset := 8 }, { name := "links", type := 3, offset := 2, embedded := false, tag := "", pkgPath := "example.com/evenkeel/evenkeel/internal/sim", byteOffset := 16 }] := by kernel_rfl

theorem guard64 : Yba.prog.eqGuardType Yba.prog.depth 64 = false := by kernel_rfl

theorem equalIn_held {ID : Nat → Int} {g h : H} {w : World} (hg : Known w ID g.c) (hh : Known w ID h.c) :
    (Op.equalIn 10000 64 (.agg #[.int .i64 g.node, .pointer (some ⟨g.c, 0, none⟩), .int .i64 g.links]) (.agg #[.int .i64 h.node, .pointer (some ⟨h.c, 0, none⟩), .int .i64 h.links])).run Yba.prog w = .ok (decide (g = h)) w := by
  have hp := fun d => eq_ptr hg hh d
  rw [run_equalIn_struct _ _ _ _ _ (by rw [fields64]; exact Yba.underlying64) (by kernel_rfl), fields64]
  have hd : decide (g = h) = (g.node == h.node && g.c == h.c && g.links == h.links) := by
    obtain ⟨a, b, c⟩ := g
    obtain ⟨a', b', c'⟩ := h
    rw [Bool.eq_iff_iff]; simp [and_assoc]
  rw [hd]
  simp [Op.eqFields, go_sem, hp]
  by_cases h1 : g.node = h.node <;> by_cases h2 : g.c = h.c <;> by_cases h3 : g.links = h.links <;> simp [h1, h2, h3]

theorem neq_held {ID : Nat → Int} {g h : H} {w : World} (hg : Known w ID g.c) (hh : Known w ID h.c) :
    (binOp .neq 64 g.val h.val).run Yba.prog w = .ok (.bool (!decide (g = h))) w := by
  have hp := fun d => eq_ptr hg hh d
  simp only [H.val]
  rw [run_neq_struct, run_equalIn_struct _ _ _ _ _ (by rw [fields64]; exact Yba.underlying64) (by kernel_rfl), fields64]
  have hd : decide (g = h) = (g.node == h.node && g.c == h.c && g.links == h.links) := by
    obtain ⟨a, b, c⟩ := g
    obtain ⟨a', b', c'⟩ := h
    rw [Bool.eq_iff_iff]; simp [and_assoc]
  rw [hd]
  simp [Op.eqFields, go_sem, hp]
  by_cases h1 : g.node = h.node <;> by_cases h2 : g.c = h.c <;> by_cases h3 : g.links = h.links <;> simp [h1, h2, h3]

theorem get_prefix {L M : List H} (hl : L.length = M.length) (h : ∀ (i : Nat) x y, L[i]? = some x → M[i]? = some y → x = y) : L = M := by
  apply List.ext_getElem hl
  intro i h1 h2
  exact h i _ _ (List.getElem?_eq_getElem h1) (List.getElem?_eq_getElem h2)

set_option maxRecDepth 100000 in
set_option maxHeartbeats 1000000 in
/-- slices.Equal over held nodes. -/
theorem equal_any (ID : Nat → Int) (L M : List H) (B C : Nat) (v u : Value) (w : World) (hL : Hs w B v L) (hM : Hs w C u M) (hi : Ids w ID (L ++ M)) :
    Calls Yba.prog 13 #[v, u] w fun e w' => e = .returned (.bool (decide (L = M))) ∧ ∃ q, w' = w.drewN q := by
  have mS := hL.len
  have mP := hM.len
  obtain ⟨aS, cS, gS, rfl, oS⟩ := hL.open
  obtain ⟨aP, cP, gP, rfl, oP⟩ := hM.open
  have HI : Hid (Ids w ID (L ++ M)) := hi
  have HS : Hid (0 < L.length → aS = some ⟨gS, 0, none⟩ ∧ B ≤ gS ∧ Part w gS cS L) := oS
  have HP : Hid (0 < M.length → aP = some ⟨gP, 0, none⟩ ∧ C ≤ gP ∧ Part w gP cP M) := oP
  clear hi oS oP hL hM
  by_cases hlen : L.length = M.length
  · have hl2 : ((L.length : Int) != (M.length : Int)) = false := by simp [hlen]
    have HLn : Hid (L.length = M.length) := hlen
    clear hlen
    go_enter Yba.func13, Yba.ntmps13
    go_wp2_with fail
    go_loopw [13] (fun i wr => ∃ k q : Nat, k ≤ L.length ∧ i = .int .i64 k ∧ wr = w.drewN q ∧ ∀ i x y, i < k → L[i]? = some x → M[i]? = some y → x = y) (fun i _ => L.length - (intOf i).toNat)
    case atStart => exact ⟨0, 0, Nat.zero_le _, rfl, rfl, fun i x y hi => by omega⟩
    case round =>
      obtain ⟨k, q, hk, rfl, rfl, hno⟩ := hrel
      have HN : Hid (∀ i x y, i < k → L[i]? = some x → M[i]? = some y → x = y) := hno
      clear hno
      by_cases hlt : k < L.length
      · have hlt2 : k < M.length := by have := HLn.out; omega
        obtain ⟨rfl, _, hpS⟩ := HS.out (by omega)
        obtain ⟨rfl, _, hpP⟩ := HP.out (by omega)
        obtain ⟨x, hx⟩ : ∃ g, L[k]? = some g := ⟨_, List.getElem?_eq_getElem hlt⟩
        obtain ⟨y, hy⟩ : ∃ g, M[k]? = some g := ⟨_, List.getElem?_eq_getElem hlt2⟩
        obtain ⟨c0, c1, c2⟩ := hpS.cell hx
        obtain ⟨d0, d1, d2⟩ := hpP.cell hy
        have hptr : ∀ q, (Op.equalIn 9999 53 (.pointer (some ⟨x.c, 0, none⟩)) (.pointer (some ⟨y.c, 0, none⟩))).run Yba.prog (w.drewN q) = .ok (x.c == y.c) (w.drewN q) := fun q =>
          eq_ptr (ID := ID) ((HI.out x (by have := List.mem_of_getElem? hx; simp [this])).of_block (w' := w.drewN q) rfl) ((HI.out y (by have := List.mem_of_getElem? hy; simp [this])).of_block (w' := w.drewN q) rfl) 9998
        have HG : Hid (L[k]? = some x ∧ M[k]? = some y ∧ k < L.length ∧ k < M.length) := ⟨hx, hy, hlt, hlt2⟩
        clear hpS hpP hx hy
        by_cases hxy : x = y
        · subst hxy
          go_wp2_with fail
          go_quiet (fail)
          go_wp2_with fail
          go_roundw
          case rel =>
            refine ⟨k + 1, _, by have := HG.out.2.2.1; omega, by go_num, rfl, fun i a b hi ha hb => ?_⟩
            by_cases hik : i = k
            · subst hik; rw [HG.out.1] at ha; rw [HG.out.2.1] at hb; cases ha; cases hb; rfl
            · exact HN.out i a b (by omega) ha hb
          case measure => have := HG.out.2.2.1; simp [intOf]; omega
        · have HF : Hid (decide (L = M) = false) := by
            simp only [decide_eq_false_iff_not]
            rintro rfl
            have h1 := HG.out.1
            rw [HG.out.2.1] at h1
            cases h1
            exact hxy rfl
          have h3 : ¬ x.node = y.node ∨ (x.node = y.node ∧ (x.c == y.c) = false) ∨ (x.node = y.node ∧ (x.c == y.c) = true ∧ ¬ x.links = y.links) := by
            by_cases e1 : x.node = y.node
            · by_cases e2 : x.c = y.c
              · refine .inr (.inr ⟨e1, by simp [e2], fun e3 => hxy ?_⟩)
                cases x; cases y; simp_all
              · exact .inr (.inl ⟨e1, by simp [e2]⟩)
            · exact .inl e1
          clear hxy
          rcases h3 with h3 | ⟨h3, h4⟩ | ⟨h3, h4, h5⟩
          · go_wp2_with fail
            go_quiet (fail)
            go_wp2_with fail
            go_ret
            exact ⟨by rw [HF.out]; rfl, _, World.drewN_drewN _ _ _⟩
          · rw [h4] at hptr
            go_wp2_with fail
            go_quiet (fail)
            go_wp2_with fail
            go_ret
            exact ⟨by rw [HF.out]; rfl, _, World.drewN_drewN _ _ _⟩
          · rw [h4] at hptr
            go_wp2_with fail
            go_quiet (fail)
            go_wp2_with fail
            go_ret
            exact ⟨by rw [HF.out]; rfl, _, World.drewN_drewN _ _ _⟩
      · have hkn : k = L.length := by omega
        subst hkn
        have HT : Hid (decide (L = M) = true) := by
          simp only [decide_eq_true_eq]
          exact get_prefix HLn.out (fun i x y hx hy => HN.out i x y (lt_of_get hx) hx hy)
        clear hlt HN
        go_wp2_with fail
        go_ret
        exact ⟨by rw [HT.out]; rfl, _, rfl⟩
  · have hl2 : ((L.length : Int) == (M.length : Int)) = false := by simp; omega
    have hl3 : ¬ (L.length : Int) = (M.length : Int) := by omega
    have HF : Hid (decide (L = M) = false) := by
      simp only [decide_eq_false_iff_not]
      rintro rfl
      exact hlen rfl
    go_enter Yba.func13, Yba.ntmps13
    go_wp2_with fail
    go_ret
    exact ⟨by rw [HF.out]; rfl, 0, rfl⟩
end Go.Proofs.Ybulkdkrk.lawS5587CWhole
