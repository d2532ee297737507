import Derived.Test.YbulkdkqwQAdd
import Derived.Laws.BytesArg
namespace Go.Proofs.Ybulkdkqw.lawS5586AWhole
open Go.ChangeShapes Go.WideShapes Go.ChangeAt Go.RowKit

/-- A message whose bytes can be read. -/
def Byt (w : World) (B : Nat) (g : Msg) : Prop := ∃ b off xs, g.mo = some ⟨b, off, none⟩ ∧ List.length xs = g.ml ∧ b < B ∧ ∀ i, i < g.ml → w.cell? ⟨b, off + i, none⟩ = some (.int .u8 (xs.getD i 0))
theorem Byt.later {w w' : World} {B : Nat} {g : Msg} (h : Byt w B g) (hb : Below B w w') : Byt w' B g := by
  obtain ⟨b, off, xs, h1, h2, h3, h4⟩ := h
  exact ⟨b, off, xs, h1, h2, h3, fun i hi => (hb.cell (p := ⟨b, off + i, none⟩) h3).trans (h4 i hi)⟩

set_option maxRecDepth 100000 in
/-- bytes.Equal of a slice with itself. -/
theorem bytesEq_any {w : World} {B : Nat} (g : Msg) (h : Byt w B g) :
    Calls Yba.prog 13 #[.slice g.mo g.ml g.mc, .slice g.mo g.ml g.mc] w fun e w' => e = .returned (.bool true) ∧ w' = w := by
  obtain ⟨mo, ml, mc⟩ := g
  obtain ⟨b, off, xs, rfl, h2, _, h4⟩ := h
  have hcv := run_convert_bytes_arg (P := Yba.prog) w 54 5 Yba.underlying54 Yba.underlying5 b off ml mc xs h2 h4 9 Yba.underlying9
  clear h4 h2
  go_enter Yba.func13, Yba.ntmps13
  go_wp2_with fail
  go_ret
  exact ⟨rfl, rfl⟩

set_option maxRecDepth 100000 in
/-- eqids of equal lists. -/
theorem eqids_any {w : World} {B : Nat} {a1 a2 : Option Addr} {c1 c2 : Nat} (L : List Int) (h1 : In E64 w B a1 L) (h2 : In E64 w B a2 L) (hl : L.length ≤ 5000) :
    Calls Yba.prog 14 #[.slice a1 L.length c1, .slice a2 L.length c2] w fun e w' => e = .returned (.bool true) ∧ Below w.heap.size w w' := by
  have HI : Hid (In E64 w B a1 L ∧ In E64 w B a2 L) := ⟨h1, h2⟩
  clear h1 h2
  go_enter Yba.func14, Yba.ntmps14
  go_wp2_with fail
  go_loopw [5] (fun i wr => ∃ k : Nat, k ≤ L.length ∧ i = .int .i64 k ∧ Below w.heap.size w wr ∧ ∀ p, wr.cell? p = w.cell? p) (fun i _ => L.length - (intOf i).toNat)
  case atStart => exact ⟨0, Nat.zero_le _, rfl, Below.refl _ _, fun _ => rfl⟩
  case round =>
    obtain ⟨k, hk, rfl, hb, hc⟩ := hrel
    have HB : Hid (Below w.heap.size w wr ∧ ∀ p, wr.cell? p = w.cell? p) := ⟨hb, hc⟩
    clear hb
    by_cases hlt : k < L.length
    · obtain ⟨b1, o1, rfl, _, hc1⟩ := HI.out.1 (by omega)
      obtain ⟨b2, o2, rfl, _, hc2⟩ := HI.out.2 (by omega)
      obtain ⟨a, ha⟩ : ∃ a, L[k]? = some a := ⟨_, List.getElem?_eq_getElem hlt⟩
      have d1 := (hc ⟨b1, o1 + (k * E64.s + 0), none⟩).trans (hc1 k a ha 0 _ rfl)
      have d2 := (hc ⟨b2, o2 + (k * E64.s + 0), none⟩).trans (hc2 k a ha 0 _ rfl)
      simp only [E64, Nat.add_zero, Nat.mul_one] at d1 d2
      have HA : Hid (k < L.length) := hlt
      have i1 : (k : Int) < (L.length : Int) := by omega
      clear hc hc1 hc2 ha hlt
      go_wp2_with fail
      go_quiet (fail)
      go_wp2_with fail
      go_roundw
      case rel => exact ⟨k + 1, by have := HA.out; omega, by go_num, below_drewN HB.out.1 _, fun p => (HB.out.2 p)⟩
      case measure => have := HA.out; simp [intOf]; omega
    · have hkn : k = L.length := by omega
      subst hkn
      clear hlt hc
      go_wp2_with fail
      go_ret
      exact ⟨rfl, HB.out.1⟩

set_option maxRecDepth 100000 in
/-- eqk of equal lists. -/
theorem eqk_any {w : World} {B C : Nat} {a1 a2 : Option Addr} {c1 c2 : Nat} (L : List KM) (h1 : In EK w B a1 L) (h2 : In EK w B a2 L) (hm : ∀ k ∈ L, Byt w C ⟨k.ao, k.len, k.cap⟩) (hC : C ≤ w.heap.size) (hl : L.length ≤ 5000) :
    Calls Yba.prog 15 #[.slice a1 L.length c1, .slice a2 L.length c2] w fun e w' => e = .returned (.bool true) ∧ Below w.heap.size w w' := by
  have HI : Hid (In EK w B a1 L ∧ In EK w B a2 L) := ⟨h1, h2⟩
  have HM : Hid (∀ k ∈ L, Byt w C ⟨k.ao, k.len, k.cap⟩) := hm
  clear h1 h2 hm
  go_enter Yba.func15, Yba.ntmps15
  go_wp2_with fail
  go_loopw [5] (fun i wr => ∃ k : Nat, k ≤ L.length ∧ i = .int .i64 k ∧ Below w.heap.size w wr ∧ ∀ p, wr.cell? p = w.cell? p) (fun i _ => L.length - (intOf i).toNat)
  case atStart => exact ⟨0, Nat.zero_le _, rfl, Below.refl _ _, fun _ => rfl⟩
  case round =>
    obtain ⟨k, hk, rfl, hb, hc⟩ := hrel
    have HB : Hid (Below w.heap.size w wr ∧ ∀ p, wr.cell? p = w.cell? p) := ⟨hb, hc⟩
    clear hb
    by_cases hlt : k < L.length
    · obtain ⟨b1, o1, rfl, _, hc1⟩ := HI.out.1 (by omega)
      obtain ⟨b2, o2, rfl, _, hc2⟩ := HI.out.2 (by omega)
      obtain ⟨⟨ks, ka, kl, kc, kf⟩, ha⟩ : ∃ a, L[k]? = some a := ⟨_, List.getElem?_eq_getElem hlt⟩
      have d0 := (hc ⟨b1, o1 + (k * EK.s + 0), none⟩).trans (hc1 k _ ha 0 _ rfl)
      have d1 := (hc ⟨b1, o1 + (k * EK.s + 1), none⟩).trans (hc1 k _ ha 1 _ rfl)
      have d2 := (hc ⟨b1, o1 + (k * EK.s + 2), none⟩).trans (hc1 k _ ha 2 _ rfl)
      have e0 := (hc ⟨b2, o2 + (k * EK.s + 0), none⟩).trans (hc2 k _ ha 0 _ rfl)
      have e1 := (hc ⟨b2, o2 + (k * EK.s + 1), none⟩).trans (hc2 k _ ha 1 _ rfl)
      have e2 := (hc ⟨b2, o2 + (k * EK.s + 2), none⟩).trans (hc2 k _ ha 2 _ rfl)
      simp only [EK, Nat.add_zero, ← Nat.add_assoc] at d0 d1 d2 e0 e1 e2
      have HQ : Hid (∀ n, Calls Yba.prog 13 #[.slice ka kl kc, .slice ka kl kc] (wr.drewN n) fun e w' => e = .returned (.bool true) ∧ w' = wr.drewN n) := fun n => bytesEq_any ⟨ka, kl, kc⟩ (((HM.out _ (List.mem_of_getElem? ha)).later (HB.out.1.mono hC)).later (below_drewN (Below.refl _ _) n))
      have HA : Hid (k < L.length) := hlt
      have i1 : (k : Int) < (L.length : Int) := by omega
      clear hc hc1 hc2 ha hlt
      go_wp2_with fail
      go_quiet ((go_at_call 13; exact Calls.quiet_of_same (HQ.out _)))
      go_wp2_with fail
      go_roundw
      case rel => exact ⟨k + 1, by have := HA.out; omega, by go_num, below_drewN HB.out.1 _, fun p => (HB.out.2 p)⟩
      case measure => have := HA.out; simp [intOf]; omega
    · have hkn : k = L.length := by omega
      subst hkn
      clear hlt hc
      go_wp2_with fail
      go_ret
      exact ⟨rfl, HB.out.1⟩

/-- A series of the model. -/
structure SR where
  owner : Int
  name : Int
  ao : Option Addr
  len : Nat
  cap : Nat
  items : List KM
def E70 : Enc SR := ⟨3, fun r => [.int .i64 r.owner, .int .u64 r.name, .slice r.ao r.len r.cap], fun _ => rfl, fun _ u hu => by simp at hu; rcases hu with rfl | rfl | rfl <;> rfl⟩
theorem info70 : (Yba.prog.info? 70).map (fun i => (i.zero, i.size, i.bytes)) = some (some (.agg #[.int .i64 0, .int .u64 0, .slice none 0 0]), 3, 40) := by kernel_rfl
def atS (o n : Int) (r : SR) : Bool := (r.owner == o) && (r.name == n)
def idxV : Option Nat → Value
  | some i => .int .i64 (i : Int)
  | none => .int .i64 (-1)

set_option maxRecDepth 100000 in
/-- The model's find. -/
theorem find_any {w : World} {B : Nat} {ao : Option Addr} {cap : Nat} (L : List SR) (o n : Int) (h : In E70 w B ao L) (hl : L.length ≤ 5000) :
    Calls Yba.prog 12 #[.slice ao L.length cap, .int .i64 o, .int .u64 n] w fun e w' => e = .returned (idxV (L.findIdx? (atS o n))) ∧ w' = w := by
  have HI : Hid (In E70 w B ao L) := h
  clear h
  go_enter Yba.func12, Yba.ntmps12
  go_wp2_with fail
  go_loopw [7] (fun i wr => ∃ k : Nat, k ≤ L.length ∧ i = .int .i64 k ∧ wr = w ∧ ∀ (j : Nat) r, j < k → L[j]? = some r → atS o n r = false) (fun i _ => L.length - (intOf i).toNat)
  case atStart => exact ⟨0, Nat.zero_le _, rfl, by trivial, fun j r hj => by omega⟩
  case round =>
    obtain ⟨k, hk, rfl, rfl, hno⟩ := hrel
    have HN : Hid (∀ (j : Nat) r, j < k → L[j]? = some r → atS o n r = false) := hno
    clear hno
    by_cases hlt : k < L.length
    · obtain ⟨b, off, rfl, _, hcell⟩ := HI.out (by omega)
      obtain ⟨⟨ro, rn, ra, rl, rc, ri⟩, ha⟩ : ∃ a, L[k]? = some a := ⟨_, List.getElem?_eq_getElem hlt⟩
      have d0 := hcell k _ ha 0 _ rfl
      have d1 := hcell k _ ha 1 _ rfl
      simp only [E70, Nat.add_zero, ← Nat.add_assoc] at d0 d1
      have HA : Hid (L[k]? = some ⟨ro, rn, ra, rl, rc, ri⟩ ∧ k < L.length) := ⟨ha, hlt⟩
      have i1 : (k : Int) < (L.length : Int) := by omega
      clear hcell ha
      by_cases he : ro = o
      · have heb : (ro == o) = true := by simpa using he
        by_cases hn : rn = n
        · have hnb : (rn == n) = true := by simpa using hn
          have HT : Hid (L.findIdx? (atS o n) = some k) := by
            show _ = _
            rw [List.findIdx?_eq_some_iff_getElem]
            refine ⟨hlt, ?_, fun j hj => ?_⟩
            · have e := HA.out.1
              rw [List.getElem?_eq_getElem hlt] at e
              injection e with e
              rw [e]; simp [atS, he, hn]
            · rw [HN.out j _ hj (List.getElem?_eq_getElem (by omega))]
              simp
          clear he hn hlt
          go_wp2_with fail
          go_ret
          exact ⟨by rw [HT.out]; rfl, rfl⟩
        · have hnb : (rn == n) = false := by simpa using hn
          have HE : Hid (atS o n ⟨ro, rn, ra, rl, rc, ri⟩ = false) := by show _ = _; simp [atS, hn]
          clear he hn hlt
          go_wp2_with fail
          go_roundw
          case rel =>
            refine ⟨k + 1, by have := HA.out.2; omega, by go_num, by trivial, fun j r hj hr => ?_⟩
            rcases Nat.lt_or_ge j k with h | h
            · exact HN.out j r h hr
            · have : j = k := by omega
              subst this
              rw [HA.out.1] at hr
              injection hr with hr
              rw [← hr]; exact HE.out
          case measure => have := HA.out.2; simp [intOf]; omega
      · have heb : (ro == o) = false := by simpa using he
        have HE : Hid (atS o n ⟨ro, rn, ra, rl, rc, ri⟩ = false) := by show _ = _; simp [atS, he]
        clear he hlt
        go_wp2_with fail
        go_roundw
        case rel =>
          refine ⟨k + 1, by have := HA.out.2; omega, by go_num, by trivial, fun j r hj hr => ?_⟩
          rcases Nat.lt_or_ge j k with h | h
          · exact HN.out j r h hr
          · have : j = k := by omega
            subst this
            rw [HA.out.1] at hr
            injection hr with hr
            rw [← hr]; exact HE.out
        case measure => have := HA.out.2; simp [intOf]; omega
    · have hkn : k = L.length := by omega
      subst hkn
      have HT : Hid (L.findIdx? (atS o n) = none) := by
        show _ = _
        rw [List.findIdx?_eq_none_iff]
        intro x hx
        obtain ⟨i, hi, rfl⟩ := List.getElem_of_mem hx
        exact HN.out i _ hi (List.getElem?_eq_getElem hi)
      clear hlt
      go_wp2_with fail
      go_ret
      exact ⟨by rw [HT.out]; rfl, rfl⟩
end Go.Proofs.Ybulkdkqw.lawS5586AWhole
