import Derived.Test.YbulkdkrkAState
import Derived.Deep.CutBlock
import Derived.Deep.DeepCutAuto
namespace Go.Proofs.Ybulkdkrk.lawS5587AWhole
open Go.ChangeShapes Go.WideShapes Go.ChangeAt Go.RowKit

/-- The code behind the first k statements. -/
def tailN : Nat → Code → Code
  | 0, c => c
  | k + 1, .seq _ b => tailN k b
  | _ + 1, c => c

/-- What 'l.since' is set to ahead of the call. -/
def SinceOf (md nd tr gr sN sR sG : Int) (sO : Bool) (y0 y1 y2 : Int) (y3 : Bool) : Prop :=
  (md % 2 = 1 ∧ y0 = nd ∧ y1 = tr ∧ y2 = gr ∧ y3 = true) ∨ (md % 2 ≠ 1 ∧ y0 = sN ∧ y1 = sR ∧ y2 = sG ∧ y3 = sO)

/-- Is the receiver even with the sender? What the law's own test says. -/
def isE (md nd tr gr sN sR sG : Int) (sO : Bool) : Bool := (md % 2 == 1) || evenB sO sN sR sG nd tr gr

theorem since_even {md nd tr gr sN sR sG y0 y1 y2 : Int} {sO y3 : Bool} (h : SinceOf md nd tr gr sN sR sG sO y0 y1 y2 y3) : evenB y3 y0 y1 y2 nd tr gr = isE md nd tr gr sN sR sG sO := by
  unfold isE
  rcases h with ⟨h1, rfl, rfl, rfl, rfl⟩ | ⟨h1, rfl, rfl, rfl, rfl⟩
  · simp [evenB, h1]
  · simp [h1]

/-- The stamps, loads and count behind the merge, or as they were where the two are even. -/
def w1S (e : Bool) (I J S TS : Nat → Int) (m : Nat) : Nat → Int := if e then S else mS I J S TS m
def w1L (e : Bool) (I J S TS L TL : Nat → Int) (m : Nat) : Nat → Int := if e then L else mL I J S TS L TL m
def w1R (e : Bool) (I J S TS : Nat → Int) (m : Nat) (rs : Int) (n : Nat) : Int := if e then rs else mR inc I J S TS m rs n

theorem own_unique {I : Nat → Int} {n : Nat} {x st ld rs : Int} {heard : Bool} {S L S' L' S2 L2 : Nat → Int} {r' r2 : Int} (hI : ∀ i j, i < j → j < n → I i < I j)
    (h : OwnStep I n x heard st ld S L rs S' L' r') (h2 : OwnStep I n x heard st ld S L rs S2 L2 r2) : S' = S2 ∧ L' = L2 ∧ r' = r2 := by
  rcases h with ⟨k, hk, hx, hh, hs, rfl, rfl, rfl⟩ | ⟨hno, rfl, rfl, rfl⟩ <;> rcases h2 with ⟨k2, hk2, hx2, hh2, hs2, rfl, rfl, rfl⟩ | ⟨hno2, rfl, rfl, rfl⟩
  · have : k = k2 := by
      rcases Nat.lt_trichotomy k k2 with h | h | h
      · have := hI k k2 h hk2; omega
      · exact h
      · have := hI k2 k h hk; omega
    subst this
    exact ⟨rfl, rfl, rfl⟩
  · exact absurd ⟨hh, hs⟩ (hno2 k hk hx)
  · exact absurd ⟨hh2, hs2⟩ (hno k2 hk2 hx2)
  · exact ⟨rfl, rfl, rfl⟩
end Go.Proofs.Ybulkdkrk.lawS5587AWhole
