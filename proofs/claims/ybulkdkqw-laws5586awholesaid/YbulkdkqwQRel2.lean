import Derived.Test.YbulkdkqwQCnt
namespace Go.Proofs.Ybulkdkqw.lawS5586AWhole
open Go.ChangeShapes Go.WideShapes Go.ChangeAt Go.RowKit

/-- The model's number of an owner. -/
def ownI : Nat → Int
  | 0 => -1
  | i + 1 => (i : Int)
theorem ownI_inj {a b : Nat} (h : ownI a = ownI b) : a = b := by
  cases a <;> cases b <;> simp [ownI] at h ⊢ <;> omega

abbrev TT := List (Int × Int × List KM)

/-- The model's list says what the router keeps. -/
structure Rel (T : TT) (SS : Nat → Int → List KM) (no : Nat) : Prop where
  nd : (T.map (fun t => (t.1, t.2.1))).Nodup
  look : ∀ t ∈ T, ∃ o, o < no ∧ t.1 = ownI o ∧ SS o t.2.1 = t.2.2 ∧ U t.2.1
  only : ∀ o a, o < no → SS o a ≠ [] → (ownI o, a, SS o a) ∈ T

def ownB (o : Nat) (t : Int × Int × List KM) : Bool := (t.1 == ownI o) && !t.2.2.isEmpty

theorem Rel.count {T : TT} {w : World} {no : Nat} {KB : Nat → Nat} {FF : Nat → Int → Value} {SS : Nat → Int → List KM} {NN : Nat → Nat} {m : Nat} (h : Rel T SS no) (hk : KV w no KB FF SS NN m) {o : Nat} (ho : o < no) : NN o = (T.filter (ownB o)).length := by
  have hm := hk.map o ho
  have hc := hm.count ((T.filter (ownB o)).map (fun t => t.2.1)) ?_ ?_ ?_
  · rw [hc, List.length_map]
  · rw [List.Nodup, List.pairwise_map]
    have h1 := h.nd
    rw [List.Nodup, List.pairwise_map] at h1
    have h2 : (T.filter (ownB o)).Pairwise (fun a b => (a.1, a.2.1) ≠ (b.1, b.2.1)) := h1.sublist List.filter_sublist
    refine h2.imp_of_mem (fun {a b} ha hb hne e => hne ?_)
    have ea : a.1 = ownI o := by have := (List.mem_filter.1 ha).2; simp [ownB] at this; exact this.1
    have eb : b.1 = ownI o := by have := (List.mem_filter.1 hb).2; simp [ownB] at this; exact this.1
    rw [ea, eb, e]
  · intro a ha
    obtain ⟨t, ht, rfl⟩ := List.mem_map.1 ha
    obtain ⟨o', _, _, _, hu⟩ := h.look t (List.mem_filter.1 ht).1
    exact hu
  · intro a ha
    have e : (mapOf (FF o) (SS o) a).isSome = true ↔ SS o a ≠ [] := by unfold mapOf; by_cases hs : SS o a = [] <;> simp [hs]
    rw [e]
    constructor
    · intro hne
      refine List.mem_map.2 ⟨_, List.mem_filter.2 ⟨h.only o a ho hne, ?_⟩, rfl⟩
      simp [ownB, hne]
    · intro hin
      obtain ⟨t, ht, rfl⟩ := List.mem_map.1 hin
      obtain ⟨ht1, ht2⟩ := List.mem_filter.1 ht
      obtain ⟨o', ho', e1, e2, _⟩ := h.look t ht1
      simp [ownB] at ht2
      have : o' = o := ownI_inj (e1.symm.trans ht2.1)
      subst this
      rw [e2]
      exact ht2.2

theorem Rd.in_ {w : World} {v : Value} {L : List KM} (h : Rd w v L) : ∃ ao cap, v = .slice ao L.length cap ∧ In EK w w.heap.size ao L := by
  obtain ⟨g, off, cap, cur, hv, hc, _, hcell⟩ := h
  refine ⟨some ⟨g, off, none⟩, cap, hv, fun _ => ⟨g, off, rfl, (Array.getElem?_eq_some_iff.1 hc).1, fun i x hx j u hu => hcell i x hx j u hu⟩⟩
end Go.Proofs.Ybulkdkqw.lawS5586AWhole
