import Derived.Test.YbulkdkqwQT4
import Derived.Test.YbulkdkqwQT14
namespace Go.Proofs.Ybulkdkqw.lawS5586AWhole
open Go.ChangeShapes Go.WideShapes Go.ChangeAt Go.RowKit

/-- The owners' maps. -/
def kbF (mk : Nat) (ps : List Peer) : Nat → Nat
  | 0 => mk
  | i + 1 => ((ps[i]?).map (·.kb)).getD 0

theorem kbs (mk : Nat) (ps : List Peer) : KBs ps mk (ps.length + 1) (kbF mk ps) := ⟨rfl, rfl, fun i p hp => by simp [kbF, hp]⟩

theorem nodup_flat {ps : List Peer} (h : (ps.flatMap blks).Nodup) : ∀ (i j : Nat) p q b c, ps[i]? = some p → ps[j]? = some q → b ∈ blks p → c ∈ blks q → b = c → i = j := by
  induction ps with
  | nil => intro i j p q b c hi; simp at hi
  | cons x ps ih =>
    intro i j p q b c hi hj hb hc e
    rw [List.flatMap_cons, List.nodup_append] at h
    cases i with
    | zero =>
      cases j with
      | zero => rfl
      | succ j =>
        exfalso
        simp at hi hj
        subst hi
        exact h.2.2 b hb c (List.mem_flatMap.2 ⟨q, List.mem_of_getElem? hj, hc⟩) e
    | succ i =>
      cases j with
      | zero =>
        exfalso
        simp at hi hj
        subst hj
        exact h.2.2 c hc b (List.mem_flatMap.2 ⟨p, List.mem_of_getElem? hi, hb⟩) e.symm
      | succ j =>
        simp at hi hj
        rw [ih h.2.1 i j p q b c hi hj hb hc e]

theorem RS.toRU {w : World} {B Rb : Nat} {sf : Int} {vids : Value} {ids : List Int} {pm um nm mk : Nat} {ps : List Peer} (h : RS w B Rb sf vids ids pm um nm mk ps) : RU w B Rb sf vids ids pm um nm mk ps [] 0 (ps.length + 1) (kbF mk ps) (fun _ _ => .slice none 0 0) (fun _ => 0) := by
  have hnd := h.nd
  simp only [List.nodup_cons, List.mem_cons, not_or] at hnd
  obtain ⟨⟨n1, n2, n3, n4⟩, ⟨n5, n6, n7⟩, ⟨n8, n9⟩, n10, n11⟩ := hnd
  have hin : ∀ p ∈ ps, ∀ b ∈ blks p, b ∈ ps.flatMap blks := fun p hp b hb => List.mem_flatMap.2 ⟨p, hp, hb⟩
  have hkb : ∀ o, o < ps.length + 1 → (o = 0 ∧ kbF mk ps o = mk) ∨ ∃ i p, o = i + 1 ∧ ps[i]? = some p ∧ p ∈ ps ∧ kbF mk ps o = p.kb := fun o ho => by
    cases o with
    | zero => exact .inl ⟨rfl, rfl⟩
    | succ i =>
      have hp : ps[i]? = some ps[i] := List.getElem?_eq_getElem (by omega)
      exact .inr ⟨i, _, rfl, hp, List.mem_of_getElem? hp, by simp [kbF, hp]⟩
  have hmap : ∀ o, o < ps.length + 1 → MapF w (kbF mk ps o) (fun _ => none) 0 := fun o ho => by
    rcases hkb o ho with ⟨_, e⟩ | ⟨i, p, _, _, hp, e⟩
    · rw [e]; exact h.mine
    · rw [e]; exact h.kept p hp
  have hka : KeptAll w B (ps.length + 1) (kbF mk ps) (fun _ _ => .slice none 0 0) (fun _ _ => []) (fun _ => 0) 0 := by
    refine ⟨fun o ho => ?_, fun o a ho hn => absurd rfl hn, fun o a ho => List.Pairwise.nil, fun o a o' a' ho ho' hn => absurd rfl hn, fun o o' ho ho' e => ?_, fun o a ho => Nat.le_refl _, fun o ho => Nat.le_refl _, fun o ho => ?_, fun o a g ho hn => absurd rfl hn⟩
    · have e : mapOf (fun _ => Value.slice none 0 0) (fun _ => []) = fun _ => none := by funext a; simp [mapOf]
      rw [e]
      exact hmap o ho
    · rcases hkb o ho with ⟨h1, e1⟩ | ⟨i, p, h1, hpi, hp, e1⟩ <;> rcases hkb o' ho' with ⟨h2, e2⟩ | ⟨j, q, h2, hqj, hq, e2⟩
      · rw [h1, h2]
      · exfalso
        rw [e1, e2] at e
        exact n10 (e ▸ hin q hq q.kb (by simp [blks]))
      · exfalso
        rw [e1, e2] at e
        exact n10 (e ▸ hin p hp p.kb (by simp [blks]))
      · rw [e1, e2] at e
        have := nodup_flat n11 i j p q p.kb q.kb hpi hqj (by simp [blks]) (by simp [blks]) e
        rw [h1, h2, this]
    · rcases hkb o ho with ⟨_, e⟩ | ⟨i, p, _, _, hp, e⟩
      · rw [e]; exact Nat.le_refl _
      · rw [e]; exact h.mklo p hp
  refine ⟨h.rt, ⟨h.tR, h.tP, hka.maps, fun o ho => ?_⟩, hka, kbs mk ps, ⟨n1, fun e => n5 e.symm, fun p hp => ⟨fun e => n7 (e ▸ hin p hp p.hb (by simp [blks])), fun e => n7 (e ▸ hin p hp p.jb (by simp [blks]))⟩⟩⟩
  rcases hkb o ho with ⟨_, e⟩ | ⟨i, p, _, hpi, hp, e⟩
  · rw [e]
    exact ⟨fun e => n3 e.symm, fun e => n6 e.symm, fun e => n8 e.symm, fun q hq => ⟨fun e => n10 (e ▸ hin q hq q.hb (by simp [blks])), fun e => n10 (e ▸ hin q hq q.jb (by simp [blks]))⟩⟩
  · rw [e]
    refine ⟨fun e => n4 (e ▸ hin p hp p.kb (by simp [blks])), fun e => n7 (e ▸ hin p hp p.kb (by simp [blks])), fun e => n9 (e ▸ hin p hp p.kb (by simp [blks])), fun q hq => ?_⟩
    obtain ⟨j, hj, ej⟩ := List.getElem_of_mem hq
    have hqj : ps[j]? = some q := by rw [List.getElem?_eq_getElem hj, ej]
    have hown : (blks p).Nodup := by
      have hs : (blks p).Sublist (ps.flatMap blks) := by
        rw [List.flatMap_def]
        exact List.sublist_flatten_of_mem (List.mem_map.2 ⟨p, hp, rfl⟩)
      exact n11.sublist hs
    simp only [blks, List.nodup_cons, List.mem_cons, List.not_mem_nil, or_false, not_or] at hown
    refine ⟨fun e => ?_, fun e => ?_⟩
    · have := nodup_flat n11 i j p q p.kb q.hb hpi hqj (by simp [blks]) (by simp [blks]) e
      subst this
      rw [hpi] at hqj
      injection hqj with hqj
      subst hqj
      exact hown.1.1 e.symm
    · have := nodup_flat n11 i j p q p.kb q.jb hpi hqj (by simp [blks]) (by simp [blks]) e
      subst this
      rw [hpi] at hqj
      injection hqj with hqj
      subst hqj
      exact hown.2.1 e

theorem sorted_ext : ∀ {l m : List Int}, l.Pairwise (· < ·) → m.Pairwise (· < ·) → (∀ a, a ∈ l ↔ a ∈ m) → l = m
  | [], [], _, _, _ => rfl
  | [], b :: m, _, _, h => by have := (h b).2 (by simp); simp at this
  | a :: l, [], _, _, h => by have := (h a).1 (by simp); simp at this
  | a :: l, b :: m, hl, hm, h => by
    rw [List.pairwise_cons] at hl hm
    have hab : a = b := by
      have h1 := (h a).1 (by simp)
      have h2 := (h b).2 (by simp)
      rcases List.mem_cons.1 h1 with e | h1
      · exact e
      · rcases List.mem_cons.1 h2 with e | h2
        · exact e.symm
        · have := hl.1 b h2
          have := hm.1 a h1
          omega
    subst hab
    congr 1
    refine sorted_ext hl.2 hm.2 (fun c => ?_)
    have hc := h c
    simp only [List.mem_cons] at hc
    constructor
    · intro h1
      rcases hc.1 (.inr h1) with e | h2
      · have := hl.1 c h1; omega
      · exact h2
    · intro h1
      rcases hc.2 (.inr h1) with e | h2
      · have := hm.1 c h1; omega
      · exact h2

theorem PB.sortM {W w : World} {Rb : Nat} {sf : Int} {pm um nm mk : Nat} {v vids : Value} {ids : List Int} {ps : List Peer} (h : PB W w Rb sf pm um nm mk v vids ids ps) {M : List MP} (hp : M.Perm (ps.map pm3)) (hs : M.Pairwise ltM) : SortM M ids ps sf := by
  refine ⟨?_, fun q hq => ?_, fun p hp => ⟨(h.ok p hp).1, ?_⟩, fun p hp => (h.ok p hp).2⟩
  · refine sorted_ext h.sort ?_ (fun a => ?_)
    · rw [List.pairwise_map]; exact hs
    · rw [h.mem a]
      constructor
      · rintro ⟨p, hpp, rfl⟩
        exact List.mem_map.2 ⟨pm3 p, hp.mem_iff.2 (List.mem_map.2 ⟨p, hpp, rfl⟩), rfl⟩
      · intro ha
        obtain ⟨q, hq, rfl⟩ := List.mem_map.1 ha
        obtain ⟨p, hpp, rfl⟩ := List.mem_map.1 (hp.mem_iff.1 hq)
        exact ⟨p, hpp, rfl⟩
  · obtain ⟨p, hpp, rfl⟩ := List.mem_map.1 (hp.mem_iff.1 hq)
    exact ⟨p, hpp, rfl⟩
  · obtain ⟨i, hi, e⟩ := List.getElem_of_mem hp
    rw [List.find?_eq_some_iff_getElem]
    refine ⟨by simp, i, hi, e, fun j hj => ?_⟩
    have := List.pairwise_iff_getElem.1 h.dist j i (by omega) hi hj
    rw [e] at this
    simpa using this
end Go.Proofs.Ybulkdkqw.lawS5586AWhole
