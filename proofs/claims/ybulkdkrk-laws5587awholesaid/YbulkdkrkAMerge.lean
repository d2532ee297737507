/-! THE PLAIN MATHEMATICS OF THE MERGE: no Go in sight. 'W': what one more is (a count that may go round). -/
namespace Go.Proofs.Ybulkdkrk.lawS5587AWhole

/-- The first place q < m at which J holds what I holds at p. -/
def mt (I J : Nat → Int) (m p : Nat) : Option Nat := (List.range m).find? (fun q => J q == I p)

theorem mt_some {I J : Nat → Int} {m p q : Nat} (hq : q < m) (h : J q = I p) (hno : ∀ r, r < q → J r ≠ I p) : mt I J m p = some q := by
  unfold mt
  rw [List.find?_eq_some_iff_getElem]
  refine ⟨by simp [h], q, by simpa using hq, by simp, fun j hj => ?_⟩
  simp
  exact hno j hj

theorem mt_none {I J : Nat → Int} {m p : Nat} (hno : ∀ r, r < m → J r ≠ I p) : mt I J m p = none := by
  unfold mt
  rw [List.find?_eq_none]
  intro q hq
  simp
  exact hno q (by simpa using hq)

def mUp (I J S TS : Nat → Int) (m p : Nat) : Bool := match mt I J m p with | some q => decide (S p < TS q) | none => false
def mS (I J S TS : Nat → Int) (m p : Nat) : Int := match mt I J m p with | some q => if S p < TS q then TS q else S p | none => S p
def mL (I J S TS L TL : Nat → Int) (m p : Nat) : Int := match mt I J m p with | some q => if S p < TS q then TL q else L p | none => L p
/-- The count behind the first k places. -/
def mR (W : Int → Int) (I J S TS : Nat → Int) (m : Nat) (rs : Int) : Nat → Int
  | 0 => rs
  | k + 1 => if mUp I J S TS m k then W (mR W I J S TS m rs k) else mR W I J S TS m rs k

/-- The first i places by f, the rest by g. -/
def mix (f g : Nat → Int) (i p : Nat) : Int := if p < i then f p else g p

theorem mix_succ {f g : Nat → Int} {i : Nat} : ∀ p, mix f g (i + 1) p = if p = i then f i else mix f g i p := by
  intro p
  unfold mix
  by_cases e : p = i
  · subst e; simp
  · rw [if_neg e]
    by_cases h : p < i
    · rw [if_pos h, if_pos (by omega)]
    · rw [if_neg h, if_neg (by omega)]

/-- No place below j fits a place from i on. -/
def Past (I J : Nat → Int) (n i j : Nat) : Prop := ∀ p, i ≤ p → p < n → ∀ q, q < j → J q ≠ I p

section
variable {W : Int → Int} {I J S TS L TL : Nat → Int} {n m i j : Nat} {rs : Int}

theorem past_zero : Past I J n 0 0 := fun _ _ _ q hq => absurd hq (Nat.not_lt_zero q)

theorem hit_mt (hp : Past I J n i j) (hi : i < n) (hj : j < m) (e : I i = J j) : mt I J m i = some j := mt_some hj e.symm (fun r hr => hp i (Nat.le_refl _) hi r hr)

theorem miss_mt (hp : Past I J n i j) (hi : i < n) (hJ : ∀ a b, a < b → b < m → J a < J b) (h : I i < J j) : mt I J m i = none := by
  refine mt_none (fun r hr e => ?_)
  by_cases h1 : r < j
  · exact hp i (Nat.le_refl _) hi r h1 e
  · by_cases h2 : r = j
    · subst h2; omega
    · have := hJ j r (by omega) hr; omega

theorem past_hit (hp : Past I J n i j) (hI : ∀ a b, a < b → b < n → I a < I b) (e : I i = J j) : Past I J n (i + 1) (j + 1) := by
  intro p h1 h2 q hq e2
  by_cases h : q < j
  · exact hp p (by omega) h2 q h e2
  · have hqj : q = j := by omega
    subst hqj
    have := hI i p (by omega) h2
    omega

theorem past_low (hp : Past I J n i j) : Past I J n (i + 1) j := fun p h1 h2 q hq => hp p (by omega) h2 q hq

theorem past_high (hp : Past I J n i j) (hI : ∀ a b, a < b → b < n → I a < I b) (h : J j < I i) : Past I J n i (j + 1) := by
  intro p h1 h2 q hq e2
  by_cases hqj : q < j
  · exact hp p h1 h2 q hqj e2
  · have : q = j := by omega
    subst this
    by_cases hpi : p = i
    · subst hpi; omega
    · have := hI i p (by omega) h2
      omega

/-- Where the other list is at its end nothing more fits. -/
theorem past_end (hp : Past I J n i m) : ∀ p, i ≤ p → p < n → mt I J m p = none := fun p h1 h2 => mt_none (fun r hr => hp p h1 h2 r hr)

theorem mR_end (h : ∀ p, i ≤ p → p < n → mt I J m p = none) : ∀ k, i ≤ k → k ≤ n → mR W I J S TS m rs k = mR W I J S TS m rs i := by
  intro k hk hn
  induction k with
  | zero => have : i = 0 := by omega
            subst this; rfl
  | succ k ih =>
    by_cases e : i = k + 1
    · subst e; rfl
    · have h1 := h k (by omega) (by omega)
      simp only [mR, mUp, h1]
      exact ih (by omega) (by omega)

theorem mS_none (h : mt I J m i = none) : mS I J S TS m i = S i := by simp [mS, h]
theorem mL_none (h : mt I J m i = none) : mL I J S TS L TL m i = L i := by simp [mL, h]
theorem mR_none (h : mt I J m i = none) : mR W I J S TS m rs (i + 1) = mR W I J S TS m rs i := by simp [mR, mUp, h]
theorem mS_yes (h : mt I J m i = some j) (hlt : S i < TS j) : mS I J S TS m i = TS j := by simp [mS, h, hlt]
theorem mL_yes (h : mt I J m i = some j) (hlt : S i < TS j) : mL I J S TS L TL m i = TL j := by simp [mL, h, hlt]
theorem mR_yes (h : mt I J m i = some j) (hlt : S i < TS j) : mR W I J S TS m rs (i + 1) = W (mR W I J S TS m rs i) := by simp [mR, mUp, h, hlt]
theorem mS_no (h : mt I J m i = some j) (hlt : ¬ S i < TS j) : mS I J S TS m i = S i := by simp [mS, h, hlt]
theorem mL_no (h : mt I J m i = some j) (hlt : ¬ S i < TS j) : mL I J S TS L TL m i = L i := by simp [mL, h, hlt]
theorem mR_no (h : mt I J m i = some j) (hlt : ¬ S i < TS j) : mR W I J S TS m rs (i + 1) = mR W I J S TS m rs i := by simp [mR, mUp, h, hlt]
end
end Go.Proofs.Ybulkdkrk.lawS5587AWhole
