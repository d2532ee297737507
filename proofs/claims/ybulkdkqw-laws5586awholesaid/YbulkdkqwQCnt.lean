import Derived.Test.YbulkdkqwQPut
namespace Go.Proofs.Ybulkdkqw.lawS5586AWhole
open Go.ChangeShapes Go.WideShapes Go.ChangeAt Go.RowKit
open Go.ChangeMaps
open Go.WideElems (Fit rd rg rd_key rd_val rg_of rd_mk other_key)
open Go.Maps (Keyed)

set_option maxRecDepth 100000 in
/-- A map's size, told by its keys. -/
theorem MapF.count {w : World} {b n : Nat} {F : Int → Option Value} (h : MapF w b F n) (l : List Int) (hnd : l.Nodup) (hu : ∀ a ∈ l, U a) (hl : ∀ a, U a → ((F a).isSome = true ↔ a ∈ l)) : n = l.length := by
  obtain ⟨D, h1, h2, h3⟩ := h
  obtain ⟨es, hD, hp⟩ := h1.tidy keyed
  have hkey : ∀ p ∈ es, ∃ a, U a ∧ p.1 = .int .u64 a := by
    intro p hp
    obtain ⟨xs, clock, hb, F1, hs, hD2⟩ := h1
    rw [hD] at hD2
    injection hD2 with hD2
    rw [hD2] at hp
    obtain ⟨x, hx, rfl⟩ := List.mem_map.1 (mem_sorted.1 hp)
    obtain ⟨y, hy⟩ := F1.reads x hx
    have e1 : rg Yba.prog 22 rawR x = y := rg_of hy
    obtain ⟨a, _, e2, hwf⟩ := Go.Maps.keyOf_int_inv Yba.underlying22 (rd_key hy)
    exact ⟨a, U.of_wf hwf, (congrArg (·.1) e1).trans e2⟩
  have hhas : ∀ k, Go.Maps.has D k = es.any (fun p => p.1.sameKey k) := fun k => by rw [hD]; rfl
  have hlen : n = (es.map (·.1)).length := by rw [← h2, hD]; simp [Go.Maps.size]
  have hn1 : (es.map (·.1)).Nodup := by
    rw [List.Nodup, List.pairwise_map]
    exact hp
  have hn2 : (l.map (fun a => Lit.int .u64 a)).Nodup := by
    rw [List.Nodup, List.pairwise_map]
    exact hnd.imp (fun hne e => hne (by injection e))
  have hmem : ∀ k, k ∈ es.map (·.1) ↔ k ∈ l.map (fun a => Lit.int .u64 a) := by
    intro k
    constructor
    · intro hk
      obtain ⟨p, hp, rfl⟩ := List.mem_map.1 hk
      obtain ⟨a, ha, e⟩ := hkey p hp
      have : Go.Maps.has D (.int .u64 a) = true := by
        rw [hhas, List.any_eq_true]
        exact ⟨p, hp, by rw [e]; exact WideAt.sameKey_self (isKeyLit ha)⟩
      rw [(h3 a ha).1] at this
      rw [e]
      exact List.mem_map.2 ⟨a, (hl a ha).1 this, rfl⟩
    · intro hk
      obtain ⟨a, ha, rfl⟩ := List.mem_map.1 hk
      have : Go.Maps.has D (.int .u64 a) = true := by rw [(h3 a (hu a ha)).1]; exact (hl a (hu a ha)).2 ha
      rw [hhas, List.any_eq_true] at this
      obtain ⟨p, hp, hk⟩ := this
      have e := WideAt.sameKey_eq hk
      exact List.mem_map.2 ⟨p, hp, e⟩
  have hperm := (List.perm_ext_iff_of_nodup hn1 hn2).2 hmem
  rw [hlen, hperm.length_eq, List.length_map]
end Go.Proofs.Ybulkdkqw.lawS5586AWhole
