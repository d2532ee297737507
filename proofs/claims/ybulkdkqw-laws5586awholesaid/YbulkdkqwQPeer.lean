import Derived.Test.YbulkdkqwQCarA
namespace Go.Proofs.Ybulkdkqw.lawS5586AWhole
open Go.ChangeShapes Go.WideShapes Go.ChangeAt Go.RowKit

/-- A peer's value. -/
def peerV (st since : Int) (h k j : Nat) : Value := .agg #[.int .u8 st, .int .u64 since, .int .u64 0, .slice none 0 0, .int .u64 0, .slice none 0 0, .bool false, .map (some h), .map (some k), .map (some j), .bool false]

set_option maxRecDepth 100000 in
/-- newRoutePeer. -/
theorem newPeer_any (st since : Int) (w : World) :
    Calls Yba.prog 23 #[.int .u8 st, .int .u64 since] w fun e w' => e = .returned (peerV st since (w.heap.size + 1) (w.heap.size + 2) (w.heap.size + 3)) ∧ w'.heap.size = w.heap.size + 4 ∧ Below w.heap.size w w' ∧ MapF w' (w.heap.size + 1) (fun _ => none) 0 ∧ MapF w' (w.heap.size + 2) (fun _ => none) 0 ∧ MapF w' (w.heap.size + 3) (fun _ => none) 0 := by
  have hmk : ∀ (t : TypeId) (w : World), (Instr.makeMap t none).run Yba.prog w = .ok (.map (some w.heap.size)) (w.alloc (.map #[] 0)) := fun _ _ => rfl
  go_enter Yba.func23, Yba.ntmps23
  go_wp2_with fail
  clear hmk
  generalize hwz : World.alloc _ _ = wz
  have hblk : wz.heap[w.heap.size]? = some (.cells #[.int .u8 st, .int .u64 since, .int .u64 0, .slice none 0 0, .int .u64 0, .slice none 0 0, .bool false, .map (some (w.heap.size + 1)), .map (some (w.heap.size + 2)), .map (some (w.heap.size + 3)), .bool false] 37 (0, 0)) := by
    subst hwz
    rw [Deep.blk_alloc_lt _ _ _ (by simp; omega), Deep.blk_alloc_lt _ _ _ (by simp; omega), Deep.blk_alloc_lt _ _ _ (by simp)]
    exact Deep.blk_alloc_new _ _
  have hrest : wz.heap.size = w.heap.size + 4 ∧ Below w.heap.size w wz ∧ MapF wz (w.heap.size + 1) (fun _ => none) 0 ∧ MapF wz (w.heap.size + 2) (fun _ => none) 0 ∧ MapF wz (w.heap.size + 3) (fun _ => none) 0 := by
    subst hwz
    generalize (Obj.cells _ 37) = c
    have e0 := MapF.made (w.alloc c)
    have e1 := MapF.made ((w.alloc c).alloc (.map #[] 0))
    have e2 := MapF.made (((w.alloc c).alloc (.map #[] 0)).alloc (.map #[] 0))
    have f0 := (e0.later (nb (Below.refl _ _) (Nat.le_refl _) (.map #[] 0))).later (nb (Below.refl _ _) (Nat.le_refl _) (.map #[] 0))
    have f1 := e1.later (nb (Below.refl _ _) (Nat.le_refl _) (.map #[] 0))
    have hb : Below w.heap.size w ((((w.alloc c).alloc (.map #[] 0)).alloc (.map #[] 0)).alloc (.map #[] 0)) := nb (nb (nb (nb (Below.refl _ _) (Nat.le_refl _) _) (Nat.le_refl _) _) (Nat.le_refl _) _) (Nat.le_refl _) _
    have s1 : (w.alloc c).heap.size = w.heap.size + 1 := by simp
    have s2 : ((w.alloc c).alloc (.map #[] 0)).heap.size = w.heap.size + 2 := by simp
    have s3 : (((w.alloc c).alloc (.map #[] 0)).alloc (.map #[] 0)).heap.size = w.heap.size + 3 := by simp
    rw [s1] at f0
    rw [s2] at f1
    rw [s3] at e2
    exact ⟨by simp, hb, f0, f1, e2⟩
  have HR : Hid (wz.heap.size = w.heap.size + 4 ∧ Below w.heap.size w wz ∧ MapF wz (w.heap.size + 1) (fun _ => none) 0 ∧ MapF wz (w.heap.size + 2) (fun _ => none) 0 ∧ MapF wz (w.heap.size + 3) (fun _ => none) 0) := hrest
  clear hwz hrest
  have hc : ∀ j, wz.cell? ⟨w.heap.size, j, none⟩ = (#[.int .u8 st, .int .u64 since, .int .u64 0, .slice none 0 0, .int .u64 0, .slice none 0 0, .bool false, .map (some (w.heap.size + 1)), .map (some (w.heap.size + 2)), .map (some (w.heap.size + 3)), .bool false] : Array Value)[j]? := fun j => by simp [World.cell?, hblk]
  have x0 : wz.cell? ⟨w.heap.size, 0, none⟩ = some (.int .u8 st) := hc 0
  have x1 : wz.cell? ⟨w.heap.size, 1, none⟩ = some (.int .u64 since) := hc 1
  have x2 : wz.cell? ⟨w.heap.size, 2, none⟩ = some (.int .u64 0) := hc 2
  have x3 : wz.cell? ⟨w.heap.size, 3, none⟩ = some (.slice none 0 0) := hc 3
  have x4 : wz.cell? ⟨w.heap.size, 4, none⟩ = some (.int .u64 0) := hc 4
  have x5 : wz.cell? ⟨w.heap.size, 5, none⟩ = some (.slice none 0 0) := hc 5
  have x6 : wz.cell? ⟨w.heap.size, 6, none⟩ = some (.bool false) := hc 6
  have x7 : wz.cell? ⟨w.heap.size, 7, none⟩ = some (.map (some (w.heap.size + 1))) := hc 7
  have x8 : wz.cell? ⟨w.heap.size, 8, none⟩ = some (.map (some (w.heap.size + 2))) := hc 8
  have x9 : wz.cell? ⟨w.heap.size, 9, none⟩ = some (.map (some (w.heap.size + 3))) := hc 9
  have x10 : wz.cell? ⟨w.heap.size, 10, none⟩ = some (.bool false) := hc 10
  clear hc hblk
  simp [bodyPost, results, Yba.results23, go_sem, x0, x1, x2, x3, x4, x5, x6, x7, x8, x9, x10, peerV]
  exact HR.out

set_option maxRecDepth 100000 in
/-- setPeer$1. -/
theorem setFn_any (ids : List Int) (id : Int) (bR bi Rb : Nat) (vids : Value) (B : Nat) (j : Nat) (w : World) (hL : Sl E64 22 w B vids ids) (hj : j < ids.length) (c0 : w.cell? ⟨bR, 0, none⟩ = some (.pointer (some ⟨Rb, 0, none⟩))) (c1 : w.cell? ⟨bi, 0, none⟩ = some (.int .u64 id)) (c2 : w.cell? ⟨Rb, 0, none⟩ = some vids) :
    Calls Yba.prog 25 #[.int .i64 (j : Int), .pointer (some ⟨bR, 0, none⟩), .pointer (some ⟨bi, 0, none⟩)] w fun e w' => e = .returned (.bool (decide (ids[j]?.getD 0 ≥ id))) ∧ Below w.heap.size w w' := by
  obtain ⟨ao, cap, rfl, hop⟩ := hL.open
  obtain ⟨g, rfl, _, _, _, _, hcell⟩ := hop (by omega)
  obtain ⟨y, hy⟩ : ∃ y, ids[j]? = some y := ⟨_, List.getElem?_eq_getElem hj⟩
  have d0 := hcell j y hy 0 _ rfl
  simp only [Nat.add_zero, E64, Nat.mul_one] at d0
  have HY : Hid (ids[j]? = some y) := hy
  have i1 : (j : Int) < (ids.length : Int) := by omega
  clear hcell hy hop
  go_enter Yba.func25, Yba.ntmps25
  go_wp2_with fail
  go_quiet (fail)
  go_wp2_with fail
  go_ret
  refine ⟨?_, below_drewN (Below.refl _ _) _⟩
  rw [HY.out]
  rfl

set_option maxRecDepth 100000 in
set_option maxHeartbeats 1000000 in
/-- newRouter. -/
theorem newRouter_any (sf : Int) (w : World) :
    Calls Yba.prog 5 #[.int .u64 sf] w fun e w' => e = .returned (.agg #[.slice none 0 0, .map (some (w.heap.size + 1)), .map (some (w.heap.size + 2)), .int .u64 sf, .map (some (w.heap.size + 3)), .int .u8 0, .int .u64 0, .int .u64 0, .slice none 0 0, .int .u64 0, .slice none 0 0, .bool false, .map (some (w.heap.size + 5)), .map (some (w.heap.size + 6)), .map (some (w.heap.size + 7)), .bool false, .int .u64 0]) ∧ w'.heap.size = w.heap.size + 8 ∧ Below w.heap.size w w' ∧ (∀ i, 1 ≤ i → i ≤ 3 → MapF w' (w.heap.size + i) (fun _ => none) 0) ∧ (∀ i, 5 ≤ i → i ≤ 7 → MapF w' (w.heap.size + i) (fun _ => none) 0) := by
  have hmk : ∀ (t : TypeId) (w : World), (Instr.makeMap t none).run Yba.prog w = .ok (.map (some w.heap.size)) (w.alloc (.map #[] 0)) := fun _ _ => rfl
  go_enter Yba.func5, Yba.ntmps5
  go_wp2_with fail
  clear hmk
  generalize hwz : World.alloc _ _ = wz
  have hm : wz.heap.size = w.heap.size + 4 ∧ Below w.heap.size w wz ∧ MapF wz (w.heap.size + 1) (fun _ => none) 0 ∧ MapF wz (w.heap.size + 2) (fun _ => none) 0 ∧ MapF wz (w.heap.size + 3) (fun _ => none) 0 := by
    subst hwz
    generalize (Obj.cells _ 39) = c
    have e0 := MapF.made (w.alloc c)
    have e1 := MapF.made ((w.alloc c).alloc (.map #[] 0))
    have e2 := MapF.made (((w.alloc c).alloc (.map #[] 0)).alloc (.map #[] 0))
    have f0 := (e0.later (nb (Below.refl _ _) (Nat.le_refl _) (.map #[] 0))).later (nb (Below.refl _ _) (Nat.le_refl _) (.map #[] 0))
    have f1 := e1.later (nb (Below.refl _ _) (Nat.le_refl _) (.map #[] 0))
    have hb : Below w.heap.size w ((((w.alloc c).alloc (.map #[] 0)).alloc (.map #[] 0)).alloc (.map #[] 0)) := nb (nb (nb (nb (Below.refl _ _) (Nat.le_refl _) _) (Nat.le_refl _) _) (Nat.le_refl _) _) (Nat.le_refl _) _
    have s1 : (w.alloc c).heap.size = w.heap.size + 1 := by simp
    have s2 : ((w.alloc c).alloc (.map #[] 0)).heap.size = w.heap.size + 2 := by simp
    have s3 : (((w.alloc c).alloc (.map #[] 0)).alloc (.map #[] 0)).heap.size = w.heap.size + 3 := by simp
    rw [s1] at f0
    rw [s2] at f1
    rw [s3] at e2
    exact ⟨by simp, hb, f0, f1, e2⟩
  have hfz : wz.heap[w.heap.size]? = some (.cells #[.slice none 0 0, .map none, .map none, .int .u64 0, .map none, .int .u8 0, .int .u64 0, .int .u64 0, .slice none 0 0, .int .u64 0, .slice none 0 0, .bool false, .map none, .map none, .map none, .bool false, .int .u64 0] 39 (0, 0)) := by
    subst hwz
    rw [Deep.blk_alloc_lt _ _ _ (by simp; omega), Deep.blk_alloc_lt _ _ _ (by simp; omega), Deep.blk_alloc_lt _ _ _ (by simp)]
    exact Deep.blk_alloc_new _ _
  clear hwz
  obtain ⟨hs, hb, m1, m2, m3⟩ := hm
  refine (newPeer_any 0 0 wz).mono ?_
  rintro e w2 ⟨rfl, hs2, hb2, m5, m6, m7⟩
  rw [hs] at m5 m6 m7 hs2
  have hf2 : w2.heap[w.heap.size]? = some (.cells #[.slice none 0 0, .map none, .map none, .int .u64 0, .map none, .int .u8 0, .int .u64 0, .int .u64 0, .slice none 0 0, .int .u64 0, .slice none 0 0, .bool false, .map none, .map none, .map none, .bool false, .int .u64 0] 39 (0, 0)) := (hb2.block _ (by omega)).trans hfz
  have z0 : w2.cell? ⟨w.heap.size, 0, none⟩ = some (.slice none 0 0) := by simp [World.cell?, hf2]
  have z1 : w2.cell? ⟨w.heap.size, 1, none⟩ = some (.map none) := by simp [World.cell?, hf2]
  have z2 : w2.cell? ⟨w.heap.size, 2, none⟩ = some (.map none) := by simp [World.cell?, hf2]
  have z3 : w2.cell? ⟨w.heap.size, 3, none⟩ = some (.int .u64 0) := by simp [World.cell?, hf2]
  have z4 : w2.cell? ⟨w.heap.size, 4, none⟩ = some (.map none) := by simp [World.cell?, hf2]
  have z5 : w2.cell? ⟨w.heap.size, 5, none⟩ = some (.int .u8 0) := by simp [World.cell?, hf2]
  have z6 : w2.cell? ⟨w.heap.size, 6, none⟩ = some (.int .u64 0) := by simp [World.cell?, hf2]
  have z7 : w2.cell? ⟨w.heap.size, 7, none⟩ = some (.int .u64 0) := by simp [World.cell?, hf2]
  have z8 : w2.cell? ⟨w.heap.size, 8, none⟩ = some (.slice none 0 0) := by simp [World.cell?, hf2]
  have z9 : w2.cell? ⟨w.heap.size, 9, none⟩ = some (.int .u64 0) := by simp [World.cell?, hf2]
  have z10 : w2.cell? ⟨w.heap.size, 10, none⟩ = some (.slice none 0 0) := by simp [World.cell?, hf2]
  have z11 : w2.cell? ⟨w.heap.size, 11, none⟩ = some (.bool false) := by simp [World.cell?, hf2]
  have z12 : w2.cell? ⟨w.heap.size, 12, none⟩ = some (.map none) := by simp [World.cell?, hf2]
  have z13 : w2.cell? ⟨w.heap.size, 13, none⟩ = some (.map none) := by simp [World.cell?, hf2]
  have z14 : w2.cell? ⟨w.heap.size, 14, none⟩ = some (.map none) := by simp [World.cell?, hf2]
  have z15 : w2.cell? ⟨w.heap.size, 15, none⟩ = some (.bool false) := by simp [World.cell?, hf2]
  have z16 : w2.cell? ⟨w.heap.size, 16, none⟩ = some (.int .u64 0) := by simp [World.cell?, hf2]
  have fz : ∀ j, w2.frozen? ⟨w.heap.size, j, none⟩ = false := fun j => by simp [World.frozen?, hf2]
  have HM : Hid (Below w.heap.size w w2 ∧ MapF w2 (w.heap.size + 1) (fun _ => none) 0 ∧ MapF w2 (w.heap.size + 2) (fun _ => none) 0 ∧ MapF w2 (w.heap.size + 3) (fun _ => none) 0 ∧ MapF w2 (w.heap.size + 5) (fun _ => none) 0 ∧ MapF w2 (w.heap.size + 6) (fun _ => none) 0 ∧ MapF w2 (w.heap.size + 7) (fun _ => none) 0) := ⟨hb.trans (hb2.mono (by omega)), m1.later hb2, m2.later hb2, m3.later hb2, m5, m6, m7⟩
  clear hf2 hfz hb2 hb m1 m2 m3 m5 m6 m7
  simp only [peerV]
  go_wp2_with fail
  generalize hwf : World.setCell _ _ _ = wf
  have hch : Chg [w.heap.size] w2 wf := by
    subst hwf
    iterate 17 refine Chg.setCell ?_ (by simp) _
    exact Chg.refl _ _
  have hsz : wf.heap.size = w2.heap.size := by subst hwf; simp
  have x0 : wf.cell? ⟨w.heap.size, 0, none⟩ = some (.slice none 0 0) := by subst hwf; simp [go_sem, z0]
  have x1 : wf.cell? ⟨w.heap.size, 1, none⟩ = some (.map (some (w.heap.size + 1))) := by subst hwf; simp [go_sem, z1]
  have x2 : wf.cell? ⟨w.heap.size, 2, none⟩ = some (.map (some (w.heap.size + 2))) := by subst hwf; simp [go_sem, z2]
  have x3 : wf.cell? ⟨w.heap.size, 3, none⟩ = some (.int .u64 sf) := by subst hwf; simp [go_sem, z3]
  have x4 : wf.cell? ⟨w.heap.size, 4, none⟩ = some (.map (some (w.heap.size + 3))) := by subst hwf; simp [go_sem, z4]
  have x5 : wf.cell? ⟨w.heap.size, 5, none⟩ = some (.int .u8 0) := by subst hwf; simp [go_sem, z5]
  have x6 : wf.cell? ⟨w.heap.size, 6, none⟩ = some (.int .u64 0) := by subst hwf; simp [go_sem, z6]
  have x7 : wf.cell? ⟨w.heap.size, 7, none⟩ = some (.int .u64 0) := by subst hwf; simp [go_sem, z7]
  have x8 : wf.cell? ⟨w.heap.size, 8, none⟩ = some (.slice none 0 0) := by subst hwf; simp [go_sem, z8]
  have x9 : wf.cell? ⟨w.heap.size, 9, none⟩ = some (.int .u64 0) := by subst hwf; simp [go_sem, z9]
  have x10 : wf.cell? ⟨w.heap.size, 10, none⟩ = some (.slice none 0 0) := by subst hwf; simp [go_sem, z10]
  have x11 : wf.cell? ⟨w.heap.size, 11, none⟩ = some (.bool false) := by subst hwf; simp [go_sem, z11]
  have x12 : wf.cell? ⟨w.heap.size, 12, none⟩ = some (.map (some (w.heap.size + 5))) := by subst hwf; simp [go_sem, z12]
  have x13 : wf.cell? ⟨w.heap.size, 13, none⟩ = some (.map (some (w.heap.size + 6))) := by subst hwf; simp [go_sem, z13]
  have x14 : wf.cell? ⟨w.heap.size, 14, none⟩ = some (.map (some (w.heap.size + 7))) := by subst hwf; simp [go_sem, z14]
  have x15 : wf.cell? ⟨w.heap.size, 15, none⟩ = some (.bool false) := by subst hwf; simp [go_sem, z15]
  have x16 : wf.cell? ⟨w.heap.size, 16, none⟩ = some (.int .u64 0) := by subst hwf; simp [go_sem, z16]
  clear hwf
  have HX : Hid (wf.heap.size = w.heap.size + 8 ∧ Below w.heap.size w wf ∧ (∀ i, 1 ≤ i → i ≤ 3 → MapF wf (w.heap.size + i) (fun _ => none) 0) ∧ (∀ i, 5 ≤ i → i ≤ 7 → MapF wf (w.heap.size + i) (fun _ => none) 0)) := by
    obtain ⟨hb, m1, m2, m3, m5, m6, m7⟩ := HM.out
    have hk : ∀ {b : Nat}, MapF w2 b (fun _ => none) 0 → b ≠ w.heap.size → MapF wf b (fun _ => none) 0 := fun h hne => h.of_block (hch.block _ h.lt (by simpa using hne))
    refine ⟨by omega, hb.trans (hch.below (by omega) (by simp)), fun i h1 h2 => ?_, fun i h1 h2 => ?_⟩
    · have : i = 1 ∨ i = 2 ∨ i = 3 := by omega
      rcases this with rfl | rfl | rfl
      · exact hk m1 (by omega)
      · exact hk m2 (by omega)
      · exact hk m3 (by omega)
    · have : i = 5 ∨ i = 6 ∨ i = 7 := by omega
      rcases this with rfl | rfl | rfl
      · exact hk m5 (by omega)
      · exact hk m6 (by omega)
      · exact hk m7 (by omega)
  clear z0 z1 z2 z3 z4 z5 z6 z7 z8 z9 z10 z11 z12 z13 z14 z15 z16 fz hch hsz HM hs hs2
  simp [bodyPost, results, Yba.results5, go_sem, x0, x1, x2, x3, x4, x5, x6, x7, x8, x9, x10, x11, x12, x13, x14, x15, x16]
  exact HX.out
end Go.Proofs.Ybulkdkqw.lawS5586AWhole
