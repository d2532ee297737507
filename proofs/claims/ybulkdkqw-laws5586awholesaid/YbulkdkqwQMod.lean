import Derived.Test.YbulkdkqwQCarA
namespace Go.Proofs.Ybulkdkqw.lawS5586AWhole
open Go.ChangeShapes Go.WideShapes Go.ChangeAt Go.RowKit

/-- A slice that is read: its cells lie in a block below B. -/
def In {α : Type} (E : Enc α) (w : World) (B : Nat) (ao : Option Addr) (L : List α) : Prop :=
  0 < L.length → ∃ b off, ao = some ⟨b, off, none⟩ ∧ b < B ∧ ∀ (i : Nat) (x : α), L[i]? = some x → ∀ (j : Nat) (u : Value), (E.cs x)[j]? = some u → w.cell? ⟨b, off + (i * E.s + j), none⟩ = some u

section
variable {α : Type} {E : Enc α} {w w' : World} {B : Nat} {ao : Option Addr} {L : List α}
theorem In.later (h : In E w B ao L) (hb : Below B w w') : In E w' B ao L := fun h0 => by
  obtain ⟨b, off, e, hl, hc⟩ := h h0
  exact ⟨b, off, e, hl, fun i x hx j u hu => (hb.cell (p := ⟨b, off + (i * E.s + j), none⟩) hl).trans (hc i x hx j u hu)⟩
theorem In.of_sl {t : TypeId} {C cap n : Nat} (h : Sl E t w C (.slice ao n cap) L) : In E w w.heap.size ao L := fun h0 => by
  obtain ⟨ao', cap', e, hop⟩ := h.open
  cases e
  obtain ⟨g, hg, _, hl, _, _, hc⟩ := hop h0
  exact ⟨g, 0, hg, hl, fun i x hx j u hu => by rw [Nat.zero_add]; exact hc i x hx j u hu⟩
theorem In.up {C : Nat} (h : In E w B ao L) (hC : B ≤ C) : In E w C ao L := fun h0 => by
  obtain ⟨b, off, e, hl, hc⟩ := h h0
  exact ⟨b, off, e, by omega, hc⟩
end

set_option maxRecDepth 100000 in
/-- The model's awaited. -/
theorem mAwait_any {w : World} {B : Nat} {ao : Option Addr} {cap : Nat} (unm : List Int) (name : Int) (h : In E64 w B ao unm) (hl : unm.length ≤ 2000) :
    Calls Yba.prog 11 #[.slice ao unm.length cap, .int .u64 name] w fun e w' => e = .returned (.bool (awaitB unm name)) ∧ w' = w := by
  have HI : Hid (In E64 w B ao unm) := h
  clear h
  go_enter Yba.func11, Yba.ntmps11
  go_wp2_with fail
  go_loopw [9] (fun i wr => ∃ k : Nat, k ≤ unm.length ∧ i = .int .i64 k ∧ wr = w ∧ ∀ a ∈ unm.take k, a = name) (fun i _ => unm.length - (intOf i).toNat)
  case atStart => exact ⟨0, Nat.zero_le _, rfl, by trivial, by simp⟩
  case round =>
    obtain ⟨k, hk, rfl, rfl, hno⟩ := hrel
    have HN : Hid (∀ a ∈ unm.take k, a = name) := hno
    clear hno
    by_cases hlt : k < unm.length
    · obtain ⟨b, off, rfl, _, hcell⟩ := HI.out (by omega)
      obtain ⟨a, ha⟩ : ∃ a, unm[k]? = some a := ⟨_, List.getElem?_eq_getElem hlt⟩
      have d0 := hcell k a ha 0 _ rfl
      simp only [E64, Nat.add_zero, Nat.mul_one] at d0
      have HA : Hid (unm[k]? = some a ∧ k < unm.length) := ⟨ha, hlt⟩
      have i1 : (k : Int) < (unm.length : Int) := by omega
      clear hcell ha
      by_cases hne : a = name
      · have hneb : (a != name) = false := by simpa using hne
        have HE : Hid (a = name) := hne
        clear hne hlt
        go_wp2_with fail
        go_roundw
        case rel =>
          refine ⟨k + 1, by have := HA.out.2; omega, by go_num, by trivial, fun x hx => ?_⟩
          rw [List.take_add_one, HA.out.1] at hx
          rcases List.mem_append.1 hx with hx | hx
          · exact HN.out x hx
          · simp at hx; rw [hx]; exact HE.out
        case measure => have := HA.out.2; simp [intOf]; omega
      · have hneb : (a != name) = true := by simpa using hne
        have HT : Hid (awaitB unm name = true) := List.any_eq_true.2 ⟨a, List.mem_of_getElem? HA.out.1, hneb⟩
        clear hne hlt
        go_wp2_with fail
        go_ret
        exact ⟨by rw [HT.out]; rfl, rfl⟩
    · have hkn : k = unm.length := by omega
      subst hkn
      have HT : Hid (awaitB unm name = false) := by
        show awaitB unm name = false
        unfold awaitB
        rw [List.any_eq_false]
        intro x hx
        rw [HN.out x (by rw [List.take_length]; exact hx)]
        simp
      clear hlt
      go_wp2_with fail
      go_ret
      exact ⟨by rw [HT.out]; rfl, rfl⟩

/-- A pair of the word of what is known. -/
def EP : Enc (Int × Int) := ⟨2, fun p => [.int .u64 p.1, .int .u64 p.2], fun _ => rfl, fun _ u hu => by simp at hu; rcases hu with rfl | rfl <;> rfl⟩
/-- The word, from a value on. -/
def upG (pairs : List (Int × Int)) (name v : Int) : Int := pairs.foldl (fun v p => if p.1 = name then p.2 else v) v
def upF (sf us : Int) (pairs : List (Int × Int)) (name : Int) : Int := upG pairs name (if name = sf then us else 0)

set_option maxRecDepth 100000 in
/-- The model's upto. -/
theorem mUp_any {w : World} {B : Nat} {ao : Option Addr} {cap : Nat} (sf us : Int) (pairs : List (Int × Int)) (name : Int) (h : In EP w B ao pairs) (hB : B ≤ w.heap.size) (hl : pairs.length ≤ 2000) :
    Calls Yba.prog 8 #[.int .u64 sf, .int .u64 us, .slice ao pairs.length cap, .int .u64 name] w fun e w' => e = .returned (.int .u64 (upF sf us pairs name)) ∧ Below w.heap.size w w' := by
  have HI : Hid (In EP w B ao pairs) := h
  clear h
  by_cases hs : name = sf
  · obtain ⟨v0, hv0⟩ : ∃ v0, us = v0 := ⟨_, rfl⟩
    have HV0 : Hid ((if name = sf then us else 0) = v0) := by show _ = _; rw [if_pos hs, hv0]
    have hsb : (name == sf) = true := by simpa using hs
    clear hs hv0
    go_enter Yba.func8, Yba.ntmps8
    go_wp2_with fail
    go_loopw [9, 18] (fun v i wr => ∃ k : Nat, k ≤ pairs.length ∧ i = .int .i64 k ∧ v = .int .u64 (upG (pairs.take k) name v0) ∧ Below w.heap.size w wr) (fun _ i _ => pairs.length - (intOf i).toNat)
    case atStart => exact ⟨0, Nat.zero_le _, rfl, by rw [← HV0.out, if_pos (by simpa using hsb)]; rfl, Below.refl _ _⟩
    case round =>
      obtain ⟨k, hk, rfl, rfl, hb⟩ := hrel
      have HB : Hid (Below w.heap.size w wr) := hb
      clear hb
      by_cases hlt : k < pairs.length
      · obtain ⟨b, off, rfl, hbl, hcell⟩ := HI.out (by omega)
        obtain ⟨⟨x, y⟩, ha⟩ : ∃ a, pairs[k]? = some a := ⟨_, List.getElem?_eq_getElem hlt⟩
        have d0 := (HB.out.cell (p := ⟨b, off + (k * EP.s + 0), none⟩) (by show b < _; omega)).trans (hcell k _ ha 0 _ rfl)
        have d1 := (HB.out.cell (p := ⟨b, off + (k * EP.s + 1), none⟩) (by show b < _; omega)).trans (hcell k _ ha 1 _ rfl)
        simp only [EP, Nat.add_zero, ← Nat.add_assoc] at d0 d1
        have HA : Hid (pairs[k]? = some (x, y) ∧ k < pairs.length) := ⟨ha, hlt⟩
        have i1 : (k : Int) < (pairs.length : Int) := by omega
        have HU : Hid (upG (pairs.take (k + 1)) name v0 = if x = name then y else upG (pairs.take k) name v0) := by
          show _ = _
          unfold upG
          rw [List.take_add_one, ha, List.foldl_append]
          rfl
        clear hcell ha
        by_cases hne : x = name
        · have hneb : (x == name) = true := by simpa using hne
          have HE : Hid (x = name) := hne
          clear hne hlt
          go_wp2_with fail
          go_roundw
          case rel => exact ⟨k + 1, by have := HA.out.2; omega, by go_num, by rw [HU.out, if_pos HE.out], nb HB.out (Nat.le_refl _) _⟩
          case measure => have := HA.out.2; simp [intOf]; omega
        · have hneb : (x == name) = false := by simpa using hne
          have HE : Hid (¬ x = name) := hne
          clear hne hlt
          go_wp2_with fail
          go_roundw
          case rel => exact ⟨k + 1, by have := HA.out.2; omega, by go_num, by rw [HU.out, if_neg HE.out], nb HB.out (Nat.le_refl _) _⟩
          case measure => have := HA.out.2; simp [intOf]; omega
      · have hkn : k = pairs.length := by omega
        subst hkn
        clear hlt
        go_wp2_with fail
        go_ret
        refine ⟨?_, HB.out⟩
        rw [List.take_length]
        unfold upF
        rw [HV0.out]
        rfl
  · obtain ⟨v0, hv0⟩ : ∃ v0, (0 : Int) = v0 := ⟨_, rfl⟩
    have HV0 : Hid ((if name = sf then us else 0) = v0) := by show _ = _; rw [if_neg hs, hv0]
    have hsb : (name == sf) = false := by simpa using hs
    clear hs hv0
    go_enter Yba.func8, Yba.ntmps8
    go_wp2_with fail
    go_loopw [9, 18] (fun v i wr => ∃ k : Nat, k ≤ pairs.length ∧ i = .int .i64 k ∧ v = .int .u64 (upG (pairs.take k) name v0) ∧ Below w.heap.size w wr) (fun _ i _ => pairs.length - (intOf i).toNat)
    case atStart => exact ⟨0, Nat.zero_le _, rfl, by rw [← HV0.out, if_neg (by simpa using hsb)]; rfl, Below.refl _ _⟩
    case round =>
      obtain ⟨k, hk, rfl, rfl, hb⟩ := hrel
      have HB : Hid (Below w.heap.size w wr) := hb
      clear hb
      by_cases hlt : k < pairs.length
      · obtain ⟨b, off, rfl, hbl, hcell⟩ := HI.out (by omega)
        obtain ⟨⟨x, y⟩, ha⟩ : ∃ a, pairs[k]? = some a := ⟨_, List.getElem?_eq_getElem hlt⟩
        have d0 := (HB.out.cell (p := ⟨b, off + (k * EP.s + 0), none⟩) (by show b < _; omega)).trans (hcell k _ ha 0 _ rfl)
        have d1 := (HB.out.cell (p := ⟨b, off + (k * EP.s + 1), none⟩) (by show b < _; omega)).trans (hcell k _ ha 1 _ rfl)
        simp only [EP, Nat.add_zero, ← Nat.add_assoc] at d0 d1
        have HA : Hid (pairs[k]? = some (x, y) ∧ k < pairs.length) := ⟨ha, hlt⟩
        have i1 : (k : Int) < (pairs.length : Int) := by omega
        have HU : Hid (upG (pairs.take (k + 1)) name v0 = if x = name then y else upG (pairs.take k) name v0) := by
          show _ = _
          unfold upG
          rw [List.take_add_one, ha, List.foldl_append]
          rfl
        clear hcell ha
        by_cases hne : x = name
        · have hneb : (x == name) = true := by simpa using hne
          have HE : Hid (x = name) := hne
          clear hne hlt
          go_wp2_with fail
          go_roundw
          case rel => exact ⟨k + 1, by have := HA.out.2; omega, by go_num, by rw [HU.out, if_pos HE.out], nb HB.out (Nat.le_refl _) _⟩
          case measure => have := HA.out.2; simp [intOf]; omega
        · have hneb : (x == name) = false := by simpa using hne
          have HE : Hid (¬ x = name) := hne
          clear hne hlt
          go_wp2_with fail
          go_roundw
          case rel => exact ⟨k + 1, by have := HA.out.2; omega, by go_num, by rw [HU.out, if_neg HE.out], nb HB.out (Nat.le_refl _) _⟩
          case measure => have := HA.out.2; simp [intOf]; omega
      · have hkn : k = pairs.length := by omega
        subst hkn
        clear hlt
        go_wp2_with fail
        go_ret
        refine ⟨?_, HB.out⟩
        rw [List.take_length]
        unfold upF
        rw [HV0.out]
        rfl

/-- A peer of the model. -/
structure MP where
  id : Int
  st : Int
  since : Int
def E45 : Enc MP := ⟨3, fun p => [.int .u64 p.id, .int .u8 p.st, .int .u64 p.since], fun _ => rfl, fun _ u hu => by simp at hu; rcases hu with rfl | rfl | rfl <;> rfl⟩
def bridM (o : MP) (q : MP) : Bool := (q.st == 0) && decide (q.since < o.since)
def reachM (o : MP) (L : List MP) : Bool := (o.st == 0) || ((o.st == 1) && (match L.find? (bridM o) with | some q => q.id != 0 | none => false))

set_option maxRecDepth 100000 in
/-- The model's reach. -/
theorem mReach_any {w : World} {B : Nat} {ao : Option Addr} {cap : Nat} (o : MP) (L : List MP) (h : In E45 w B ao L) (hB : B ≤ w.heap.size) (hl : L.length ≤ 2000) :
    Calls Yba.prog 10 #[.agg #[.int .u64 o.id, .int .u8 o.st, .int .u64 o.since], .slice ao L.length cap] w fun e w' => e = .returned (.bool (reachM o L)) ∧ Below w.heap.size w w' := by
  have HI : Hid (In E45 w B ao L) := h
  clear h
  obtain ⟨oid, ost, osi⟩ := o
  by_cases h0 : ost = 0
  · have h0b : (ost == 0) = true := by simpa using h0
    have HR : Hid (reachM ⟨oid, ost, osi⟩ L = true) := by show _ = _; simp [reachM, h0]
    clear h0
    go_enter Yba.func10, Yba.ntmps10
    go_wp2_with fail
    go_ret
    exact ⟨by rw [HR.out]; rfl, nb (Below.refl _ _) (Nat.le_refl _) _⟩
  · have h0b : (ost == 0) = false := by simpa using h0
    by_cases h1 : ost = 1
    · have h1b : (ost != 1) = false := by simpa using h1
      have HR : Hid (reachM ⟨oid, ost, osi⟩ L = (match L.find? (bridM ⟨oid, ost, osi⟩) with | some q => q.id != 0 | none => false)) := by show _ = _; simp [reachM, h1]
      clear h0 h1
      go_enter Yba.func10, Yba.ntmps10
      go_wp2_with fail
      generalize hwb : World.alloc _ _ = wb
      have hbb : Below w.heap.size w wb := by subst hwb; exact nb (Below.refl _ _) (Nat.le_refl _) _
      have hsz : wb.heap.size = w.heap.size + 1 := by subst hwb; simp
      have x2 : wb.cell? ⟨w.heap.size, 2, none⟩ = some (.int .u64 osi) := by subst hwb; simp [go_sem]
      clear hwb
      have HX : Hid (wb.cell? ⟨w.heap.size, 2, none⟩ = some (.int .u64 osi)) := x2
      have HBb : Hid (Below w.heap.size w wb) := hbb
      clear x2 hbb
      go_loopw [15] (fun i wr => ∃ k : Nat, k ≤ L.length ∧ i = .int .i64 k ∧ Below wb.heap.size wb wr ∧ ∀ q ∈ L.take k, bridM ⟨oid, ost, osi⟩ q = false) (fun i _ => L.length - (intOf i).toNat)
      case atStart => exact ⟨0, Nat.zero_le _, rfl, Below.refl _ _, by simp⟩
      case round =>
        obtain ⟨k, hk, rfl, hb, hno⟩ := hrel
        have HB : Hid (Below wb.heap.size wb wr) := hb
        have HB0 : Hid (Below w.heap.size w wr) := HBb.out.trans (hb.mono (by omega))
        have HN : Hid (∀ q ∈ L.take k, bridM ⟨oid, ost, osi⟩ q = false) := hno
        have x2 := (hb.cell (p := ⟨w.heap.size, 2, none⟩) (by show w.heap.size < _; omega)).trans HX.out
        clear hb hno
        by_cases hlt : k < L.length
        · obtain ⟨b, off, rfl, hbl, hcell⟩ := HI.out (by omega)
          obtain ⟨⟨qid, qst, qsi⟩, ha⟩ : ∃ a, L[k]? = some a := ⟨_, List.getElem?_eq_getElem hlt⟩
          have d0 := (HB0.out.cell (p := ⟨b, off + (k * E45.s + 0), none⟩) (by show b < _; omega)).trans (hcell k _ ha 0 _ rfl)
          have d1 := (HB0.out.cell (p := ⟨b, off + (k * E45.s + 1), none⟩) (by show b < _; omega)).trans (hcell k _ ha 1 _ rfl)
          have d2 := (HB0.out.cell (p := ⟨b, off + (k * E45.s + 2), none⟩) (by show b < _; omega)).trans (hcell k _ ha 2 _ rfl)
          simp only [E45, Nat.add_zero, ← Nat.add_assoc] at d0 d1 d2
          have HA : Hid (L[k]? = some ⟨qid, qst, qsi⟩ ∧ k < L.length) := ⟨ha, hlt⟩
          have i1 : (k : Int) < (L.length : Int) := by omega
          have hsz2 := HB.out.size
          have x2' : ∀ o, (wr.alloc o).cell? ⟨w.heap.size, 2, none⟩ = some (.int .u64 osi) := fun o => (World.cell?_of_block (w := wr) (Deep.blk_alloc_lt wr o w.heap.size (by omega))).trans x2
          clear hcell ha
          by_cases hq : bridM ⟨oid, ost, osi⟩ ⟨qid, qst, qsi⟩ = true
          · have hq' := hq
            simp only [bridM, Bool.and_eq_true, decide_eq_true_eq, beq_iff_eq] at hq'
            have q1 : (qst == 0) = true := by simpa using hq'.1
            have q2 : decide (qsi < osi) = true := decide_eq_true hq'.2
            have HT : Hid (reachM ⟨oid, ost, osi⟩ L = (qid != 0)) := by
              show _ = _
              rw [HR.out]
              have : L.find? (bridM ⟨oid, ost, osi⟩) = some ⟨qid, qst, qsi⟩ := by
                rw [List.find?_eq_some_iff_getElem]
                have e := HA.out.1
                rw [List.getElem?_eq_getElem hlt] at e
                refine ⟨hq, k, hlt, by injection e, fun j hj => ?_⟩
                rw [HN.out _ (List.mem_iff_getElem.2 ⟨j, by simp; omega, List.getElem_take⟩)]
                rfl
              rw [this]
            clear hq hq' hlt
            go_wp2_with fail
            go_ret
            exact ⟨by rw [HT.out]; rfl, nb HB0.out (Nat.le_refl _) _⟩
          · have hqf : bridM ⟨oid, ost, osi⟩ ⟨qid, qst, qsi⟩ = false := by simpa using hq
            have HQ : Hid (bridM ⟨oid, ost, osi⟩ ⟨qid, qst, qsi⟩ = false) := hqf
            clear hq
            by_cases q1' : qst = 0
            · have q1 : (qst == 0) = true := by simpa using q1'
              have q2 : decide (qsi < osi) = false := by simpa [bridM, q1] using hqf
              clear q1' hqf hlt
              go_wp2_with fail
              go_roundw
              case rel =>
                refine ⟨k + 1, by have := HA.out.2; omega, by go_num, nb HB.out (Nat.le_refl _) _, fun x hx => ?_⟩
                rw [List.take_add_one, HA.out.1] at hx
                rcases List.mem_append.1 hx with hx | hx
                · exact HN.out x hx
                · simp at hx; rw [hx]; exact HQ.out
              case measure => have := HA.out.2; simp [intOf]; omega
            · have q1 : (qst == 0) = false := by simpa using q1'
              clear q1' hqf hlt
              go_wp2_with fail
              go_roundw
              case rel =>
                refine ⟨k + 1, by have := HA.out.2; omega, by go_num, nb HB.out (Nat.le_refl _) _, fun x hx => ?_⟩
                rw [List.take_add_one, HA.out.1] at hx
                rcases List.mem_append.1 hx with hx | hx
                · exact HN.out x hx
                · simp at hx; rw [hx]; exact HQ.out
              case measure => have := HA.out.2; simp [intOf]; omega
        · have hkn : k = L.length := by omega
          subst hkn
          have HT : Hid (reachM ⟨oid, ost, osi⟩ L = false) := by
            show _ = _
            rw [HR.out, List.find?_eq_none.2 (fun q hq => by rw [HN.out q (by rw [List.take_length]; exact hq)]; simp)]
          clear hlt
          go_wp2_with fail
          go_ret
          exact ⟨by rw [HT.out]; rfl, HB0.out⟩
    · have h1b : (ost != 1) = true := by simpa using h1
      have HR : Hid (reachM ⟨oid, ost, osi⟩ L = false) := by show _ = _; simp [reachM, h1, h0]
      clear h0 h1
      go_enter Yba.func10, Yba.ntmps10
      go_wp2_with fail
      go_ret
      exact ⟨by rw [HR.out]; rfl, nb (Below.refl _ _) (Nat.le_refl _) _⟩
end Go.Proofs.Ybulkdkqw.lawS5586AWhole
