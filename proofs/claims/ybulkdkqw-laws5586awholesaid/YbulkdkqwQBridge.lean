import Derived.Test.YbulkdkqwQReach
namespace Go.Proofs.Ybulkdkqw.lawS5586AWhole
open Go.ChangeShapes Go.WideShapes Go.ChangeAt Go.RowKit

/-- The slots of the region's operations. -/
def sl60 : Nat → Nat
  | 0 => 11
  | 1 => 12
  | 2 => 13
  | 3 => 14
  | 4 => 15
  | 5 => 16
  | 6 => 17
  | 7 => 18
  | 8 => 19
  | n => n + 1000

/-- What they hand on. -/
def ex60 (Rb pm blk : Nat) (origin since : Int) : Nat → Value
  | 0 => .pointer (some ⟨Rb, 0, none⟩)
  | 1 => .pointer (some ⟨Rb, 0, none⟩)
  | 2 => .pointer (some ⟨Rb, 1, none⟩)
  | 3 => .map (some pm)
  | 4 => .int .u64 origin
  | 5 => .pointer (some ⟨blk, 0, none⟩)
  | 6 => .pointer (some ⟨blk, 0, none⟩)
  | 7 => .pointer (some ⟨blk, 1, none⟩)
  | 8 => .int .u64 since
  | _ => undef

set_option maxRecDepth 100000 in
def fr60 (Rb b0 : Nat) (origin : Int) (v5 v8 v9 v10 v20 v21 v22 v23 v24 v25 v26 v27 v28 v29 v30 v31 v32 v33 v34 v35 v36 v37 v38 v39 v40 v41 v42 : Value) (u : Nat → Value) : Act := ⟨#[.pointer (some ⟨Rb, 0, none⟩), .int .u64 origin, .int .u64 0, .pointer (some ⟨b0, 0, none⟩), .pointer (some ⟨b0 + 1, 0, none⟩), v5, .int .u64 0, u 7, v8, v9, v10, u 11, u 12, u 13, u 14, u 15, u 16, u 17, u 18, u 19, v20, v21, v22, v23, v24, v25, v26, v27, v28, v29, v30, v31, v32, v33, v34, v35, v36, v37, v38, v39, v40, v41, v42], []⟩

def good60 (i : Nat) : Bool := i < 11 && i != 9 && i != 10
/-- What holds at every moment of the region. -/
structure G60 (w : World) (Rb pm blk : Nat) (origin since : Int) (d : Nat → Bool) (u : Nat → Value) (w' : World) : Prop where
  bel : Below w.heap.size w w'
  val : ∀ i, good60 i = true → d i = true → u (sl60 i) = ex60 Rb pm blk origin since i
  aa : d 9 = true → ∃ g, u 7 = .pointer (some ⟨g, 0, none⟩) ∧ w.heap.size ≤ g ∧ ∃ r, w'.rowIs g 22 1 r ∧ (d 10 = true → ∀ j, j < 1 → r j = .int .u64 since)
  os : d 10 = true → d 9 = true

theorem sl60_inj (i j : Nat) (hi : good60 i = true) (hj : good60 j = true) (h : sl60 i = sl60 j) : i = j := by
  have hd : ∀ i : Fin 11, ∀ j : Fin 11, good60 i = true → good60 j = true → sl60 i = sl60 j → i.val = j.val := by decide
  have h1 : i < 11 := by simp [good60] at hi; omega
  have h2 : j < 11 := by simp [good60] at hj; omega
  exact hd ⟨i, h1⟩ ⟨j, h2⟩ hi hj h
theorem sl60_a (i : Nat) (h : good60 i = true) : sl60 i ≠ 7 := by
  have hd : ∀ i : Fin 11, good60 i = true → sl60 i ≠ 7 := by decide
  have h1 : i < 11 := by simp [good60] at h; omega
  exact hd ⟨i, h1⟩ h
section
variable {w w' w2 : World} {Rb pm blk : Nat} {origin since : Int} {d : Nat → Bool} {u : Nat → Value}
theorem G60.put (h : G60 w Rb pm blk origin since d u w') (i : Nat) (hi : good60 i = true) {v : Value} (hv : v = ex60 Rb pm blk origin since i) : G60 w Rb pm blk origin since (fun j => decide (j = i) || d j) (setU u (sl60 i) v) w' where
  bel := h.bel
  val := fun j hj hd => by
    unfold setU
    by_cases e : j = i
    · subst e; rw [if_pos rfl]; exact hv
    · rw [if_neg (fun h => e (sl60_inj j i hj hi h))]
      exact h.val j hj (by simpa [e] using hd)
  aa := fun hd => by
    have h9 : ¬ 9 = i := fun e => by subst e; simp [good60] at hi
    have h10 : ¬ 10 = i := fun e => by subst e; simp [good60] at hi
    obtain ⟨g, e, hg, r, hr, hs⟩ := h.aa (by simpa [h9] using hd)
    exact ⟨g, by unfold setU; rw [if_neg (fun h => sl60_a i hi h.symm)]; exact e, hg, r, hr, fun h => hs (by simpa [h10] using h)⟩
  os := fun hd => by
    have h9 : ¬ 9 = i := fun e => by subst e; simp [good60] at hi
    have h10 : ¬ 10 = i := fun e => by subst e; simp [good60] at hi
    have := h.os (by simpa [h10] using hd)
    simp [this]
theorem G60.grow (h : G60 w Rb pm blk origin since d u w') (hb : Below w'.heap.size w' w2) : G60 w Rb pm blk origin since d u w2 where
  bel := h.bel.trans (hb.mono h.bel.size)
  val := h.val
  aa := fun hd => by
    obtain ⟨g, e, hg, r, hr, hs⟩ := h.aa hd
    exact ⟨g, e, hg, r, hr.of_block (hb.block _ hr.lt), hs⟩
  os := h.os
theorem G60.putA (h : G60 w Rb pm blk origin since d u w') (hd0 : d 9 = false) {z : Array Value} (hz : z.size = 1 := by rfl) : G60 w Rb pm blk origin since (fun j => decide (j = 9) || d j) (setU u 7 (.pointer (some ⟨w'.heap.size, 0, none⟩))) (w'.alloc (.cells z 22)) where
  bel := h.bel.alloc h.bel.size _
  val := fun j hj hd => by
    have hne : ¬ j = 9 := fun e => by subst e; simp [good60] at hj
    unfold setU
    rw [if_neg (sl60_a j hj)]
    exact h.val j hj (by simpa [hne] using hd)
  aa := fun _ => by
    refine ⟨w'.heap.size, by simp [setU], h.bel.size, fun i => z.getD i default, ⟨z, Deep.blk_alloc_new _ _, hz, fun i hi => ?_⟩, fun h1 => ?_⟩
    · simp [Array.getD, hz, hi]
    · have := h.os (by simpa using h1); rw [hd0] at this; cases this
  os := fun _ => by simp
theorem G60.putS (h : G60 w Rb pm blk origin since d u w') (hda : d 9 = true) (g : Nat) (e : u 7 = .pointer (some ⟨g, 0, none⟩)) (hg : w.heap.size ≤ g) {r : Nat → Value} (hr : w'.rowIs g 22 1 r) : G60 w Rb pm blk origin since (fun j => decide (j = 10) || d j) u (w'.setCell ⟨g, 0, none⟩ (.int .u64 since)) where
  bel := (h.bel.setCell hg _)
  val := fun j hj hd => by
    have hne : ¬ j = 10 := fun e => by subst e; simp [good60] at hj
    exact h.val j hj (by simpa [hne] using hd)
  aa := fun _ => ⟨g, e, hg, _, (hr.set 0 _), fun _ j hj => by rw [if_pos (by omega)]⟩
  os := fun _ => by simp [hda]
end

/-- Can the peer of this ID bridge? -/
def canId (ps : List Peer) (lost a : Int) : Bool := match ps.find? (fun p => p.id == a) with
  | some p => canB p lost
  | none => false
/-- The bridge: the first that can, or 0. -/
def bridgeF (ps : List Peer) (lost : Int) (ids : List Int) : Int := (ids.find? (canId ps lost)).getD 0

theorem bridge_at {ps : List Peer} {lost : Int} {ids : List Int} {k : Nat} {a : Int} (ha : ids[k]? = some a) (hc : canId ps lost a = true) (hn : ∀ (j : Nat) (b : Int), j < k → ids[j]? = some b → canId ps lost b = false) : bridgeF ps lost ids = a := by
  unfold bridgeF
  have : ids.find? (canId ps lost) = some a := by
    rw [List.find?_eq_some_iff_getElem]
    have hk := lt_of_get ha
    rw [List.getElem?_eq_getElem hk] at ha
    refine ⟨hc, k, hk, by injection ha, fun j hj => ?_⟩
    rw [hn j _ hj (List.getElem?_eq_getElem (by omega))]
    rfl
  rw [this]; rfl
theorem bridge_none {ps : List Peer} {lost : Int} {ids : List Int} (hn : ∀ (j : Nat) (b : Int), ids[j]? = some b → canId ps lost b = false) : bridgeF ps lost ids = 0 := by
  unfold bridgeF
  rw [List.find?_eq_none.2 (fun x hx => ?_)]
  · rfl
  · obtain ⟨i, hi, rfl⟩ := List.getElem_of_mem hx
    rw [hn i _ (List.getElem?_eq_getElem hi)]
    simp

theorem enter68 (a b c d : Value) (w : World) : (callFunc 68 #[a, b, c, d]).run Yba.prog w = .ok (.enter 68 #[a, b, c, d]) w := by simp [go_sem]

section
variable {w : World} {B Rb : Nat} {sf : Int} {vids : Value} {ids : List Int} {pm um nm mk : Nat} {ps : List Peer} {unm : List Int} {ucnt : Nat}
set_option maxRecDepth 100000 in
set_option maxHeartbeats 2000000 in
/-- bridge, no earlier one. -/
theorem bridge_any (h : Rt w B Rb sf vids ids pm um nm mk ps unm ucnt) {p : Peer} (hp : ps.find? (fun q => q.id == p.id) = some p) (hid : U p.id) (hl : ids.length ≤ 2000) :
    Calls Yba.prog 60 #[.pointer (some ⟨Rb, 0, none⟩), .int .u64 p.id, .int .u64 0] w fun e w' => e = .returned (.int .u64 (bridgeF ps p.since ids)) ∧ Below w.heap.size w w' := by
  have HRt : Hid (Rt w B Rb sf vids ids pm um nm mk ps unm ucnt) := h
  obtain ⟨ao, cap, rfl, hop⟩ := h.hids.open
  have HOp : Hid (0 < ids.length → ∃ g, ao = some ⟨g, 0, none⟩ ∧ g < w.heap.size ∧ ∀ (i : Nat) (a : Int), ids[i]? = some a → w.cell? ⟨g, i, none⟩ = some (.int .u64 a)) := fun h0 => by
    obtain ⟨g, h1, _, h2, _, _, h3⟩ := hop h0
    exact ⟨g, h1, h2, fun i a hi => by have := h3 i a hi 0 _ rfl; simpa [E64] using this⟩
  have HP : Hid (ps.find? (fun q => q.id == p.id) = some p) := hp
  clear h hop hp
  go_enter Yba.func60, Yba.ntmps60
  refine wp_seq_k ?_
  intro K hK
  have HK := show Hid _ from hK
  clear hK
  go_wp2_with fail
  refine HK.out _ _ ?_
  clear HK K
  generalize hwb : World.alloc _ _ = wb
  have hbb : Below w.heap.size w wb := by subst hwb; exact nb (nb (Below.refl _ _) (Nat.le_refl _) _) (Nat.le_refl _) _
  have hsz : wb.heap.size = w.heap.size + 1 + 1 := by subst hwb; simp
  have x1 : wb.cell? ⟨w.heap.size, 0, none⟩ = some (.pointer (some ⟨Rb, 0, none⟩)) := by subst hwb; simp [go_sem]
  have x2 : wb.cell? ⟨w.heap.size + 1, 0, none⟩ = some (.int .u64 p.id) := by subst hwb; simp [go_sem]
  clear hwb
  have HRb : Hid (Rt wb B Rb sf (.slice ao ids.length cap) ids pm um nm mk ps unm ucnt) := HRt.out.later hbb
  have HB : Hid (Below w.heap.size w wb) := hbb
  clear hbb
  refine wp_seq_k ?_
  intro K hK
  have HK := show Hid _ from hK
  clear hK
  refine wp_region_inv cmixed (back_of (by kernel_rfl)) (fun d a w' => ∃ u, a = fr60 Rb w.heap.size p.id undef undef undef undef undef undef undef undef undef undef undef undef undef undef undef undef undef undef undef undef undef undef undef undef undef undef undef u ∧ G60 wb Rb pm p.blk p.id p.since d u w') ?_ ?_ ?_
  · exact ⟨fun _ => undef, rfl, (Below.refl _ _).drew, by simp, by simp, by simp⟩
  · intro d a wx i o hI ho hd hdep
    obtain ⟨u, rfl, hG⟩ := hI
    have hR := HRb.out.later hG.bel
    have m1 := hR.c1
    have hlk := hR.pmap.look Yba.underlying27 (zero74 wx) hid
    simp [pmF, HP.out] at hlk
    have mp1 := (hR.peers p (List.mem_of_find?_eq_some HP.out)).c1
    have y1 := (hG.bel.cell (p := ⟨w.heap.size, 0, none⟩) (by simp; omega)).trans x1
    have y2 := (hG.bel.cell (p := ⟨w.heap.size + 1, 0, none⟩) (by simp; omega)).trans x2
    clear hR HK
    match i with
    | 0 =>
      have ho' := ho
      simp at ho; subst ho
      simp [Region.binds] at hdep
      refine wpOp_plain ho' rfl ?_
      clear ho'
      unfold Oper.wp
      simp only [execOp, fr60]
      go_simp
      exact ⟨_, by simp [setU, ex60, sl60], hG.put 0 (by decide) rfl⟩
    | 1 =>
      have ho' := ho
      simp at ho; subst ho
      simp [Region.binds] at hdep
      refine wpOp_plain ho' rfl ?_
      clear ho'
      have e0 : u 11 = .pointer (some ⟨Rb, 0, none⟩) := hG.val 0 (by decide) (by simp [hdep])
      unfold Oper.wp
      simp only [execOp, fr60]
      go_simp
      exact ⟨_, by simp [setU, ex60, sl60, e0], hG.put 1 (by decide) rfl⟩
    | 2 =>
      have ho' := ho
      simp at ho; subst ho
      simp [Region.binds] at hdep
      refine wpOp_plain ho' rfl ?_
      clear ho'
      have e1 : u 12 = .pointer (some ⟨Rb, 0, none⟩) := hG.val 1 (by decide) (by simp [hdep])
      unfold Oper.wp
      simp only [execOp, fr60]
      go_simp
      exact ⟨_, by simp [setU, ex60, sl60, e1], hG.put 2 (by decide) rfl⟩
    | 3 =>
      have ho' := ho
      simp at ho; subst ho
      simp [Region.binds] at hdep
      refine wpOp_plain ho' rfl ?_
      clear ho'
      have e2 : u 13 = .pointer (some ⟨Rb, 1, none⟩) := hG.val 2 (by decide) (by simp [hdep])
      unfold Oper.wp
      simp only [execOp, fr60]
      go_simp
      exact ⟨_, by simp [setU, ex60, sl60, e2], hG.put 3 (by decide) rfl⟩
    | 4 =>
      have ho' := ho
      simp at ho; subst ho
      simp [Region.binds] at hdep
      refine wpOp_plain ho' rfl ?_
      clear ho'
      unfold Oper.wp
      simp only [execOp, fr60]
      go_simp
      exact ⟨_, by simp [setU, ex60, sl60], hG.put 4 (by decide) rfl⟩
    | 5 =>
      have ho' := ho
      simp at ho; subst ho
      simp [Region.binds] at hdep
      refine wpOp_plain ho' rfl ?_
      clear ho'
      have e3 : u 14 = .map (some pm) := hG.val 3 (by decide) (by simp [hdep])
      have e4 : u 15 = .int .u64 p.id := hG.val 4 (by decide) (by simp [hdep])
      unfold Oper.wp
      simp only [execOp, fr60]
      go_simp
      exact ⟨_, by simp [setU, ex60, sl60, e3, e4], hG.put 5 (by decide) rfl⟩
    | 6 =>
      have ho' := ho
      simp at ho; subst ho
      simp [Region.binds] at hdep
      refine wpOp_plain ho' rfl ?_
      clear ho'
      have e5 : u 16 = .pointer (some ⟨p.blk, 0, none⟩) := hG.val 5 (by decide) (by simp [hdep])
      unfold Oper.wp
      simp only [execOp, fr60]
      go_simp
      exact ⟨_, by simp [setU, ex60, sl60, e5], hG.put 6 (by decide) rfl⟩
    | 7 =>
      have ho' := ho
      simp at ho; subst ho
      simp [Region.binds] at hdep
      refine wpOp_plain ho' rfl ?_
      clear ho'
      have e6 : u 17 = .pointer (some ⟨p.blk, 0, none⟩) := hG.val 6 (by decide) (by simp [hdep])
      unfold Oper.wp
      simp only [execOp, fr60]
      go_simp
      exact ⟨_, by simp [setU, ex60, sl60, e6], hG.put 7 (by decide) rfl⟩
    | 8 =>
      have ho' := ho
      simp at ho; subst ho
      simp [Region.binds] at hdep
      refine wpOp_plain ho' rfl ?_
      clear ho'
      have e7 : u 18 = .pointer (some ⟨p.blk, 1, none⟩) := hG.val 7 (by decide) (by simp [hdep])
      unfold Oper.wp
      simp only [execOp, fr60]
      go_simp
      exact ⟨_, by simp [setU, ex60, sl60, e7], hG.put 8 (by decide) rfl⟩
    | 9 =>
      have ho' := ho
      simp at ho; subst ho
      simp [Region.binds] at hdep
      refine wpOp_plain ho' rfl ?_
      clear ho'
      unfold Oper.wp
      simp only [execOp, fr60]
      go_simp
      exact ⟨_, by simp [setU], hG.putA hd⟩
    | 10 =>
      have ho' := ho
      simp at ho; subst ho
      simp [Region.binds] at hdep
      refine wpOp_plain ho' rfl ?_
      clear ho'
      have e8 : u 19 = .int .u64 p.since := hG.val 8 (by decide) (by simp [hdep])
      obtain ⟨g, e9, hg, r, hr, _⟩ := hG.aa (by simp [hdep])
      have k0 := hr.cell (i := 0) (by omega)
      have hf0 := hr.frozen 0
      unfold Oper.wp
      simp only [execOp, fr60]
      go_simp
      exact ⟨u, by simp [e9, e8], hG.putS (by simp [hdep]) g e9 hg hr⟩
    | i + 11 => simp at ho
  · intro d a w1 hI hall
    obtain ⟨u, rfl, hG⟩ := hI
    obtain ⟨g, e7, hg, r, hr, hst⟩ := hG.aa (hall 9 (by decide))
    have x3 : w1.cell? ⟨g, 0, none⟩ = some (.int .u64 p.since) := (hr.cell (by omega)).trans (by rw [hst (hall 10 (by decide)) 0 (by omega)])
    have HB1 : Hid (Below wb.heap.size wb w1) := hG.bel
    have lg : g < w1.heap.size := hr.lt
    clear hall hG hr hst
    refine HK.out _ _ ?_
    clear HK K
    simp only [fr60]
    rw [e7]
    have c0 := (HRb.out.later HB1.out).c0
    have y1 := (HB1.out.cell (p := ⟨w.heap.size, 0, none⟩) (by simp; omega)).trans x1
    have y2 := (HB1.out.cell (p := ⟨w.heap.size + 1, 0, none⟩) (by simp; omega)).trans x2
    clear x1 x2 e7
    go_wp2_with fail
    clear c0
    go_loopw [34] (fun i wr => ∃ k : Nat, k ≤ ids.length ∧ i = .int .i64 k ∧ Below w1.heap.size w1 wr ∧ ∀ (j : Nat) (b : Int), j < k → ids[j]? = some b → canId ps p.since b = false) (fun i _ => ids.length - (intOf i).toNat)
    case atStart => exact ⟨0, Nat.zero_le _, rfl, Below.refl _ _, fun j b hj => by omega⟩
    case round =>
      obtain ⟨k, hk, rfl, hb, hno⟩ := hrel
      have HN : Hid (∀ (j : Nat) (b : Int), j < k → ids[j]? = some b → canId ps p.since b = false) := hno
      have hbb : Below wb.heap.size wb wr := HB1.out.trans (hb.mono HB1.out.size)
      have hbw : Below w.heap.size w wr := HB.out.trans (hbb.mono (by omega))
      have HBr : Hid (Below w.heap.size w wr) := hbw
      have HB1r : Hid (Below w1.heap.size w1 wr) := hb
      clear hno
      by_cases hlt : k < ids.length
      · obtain ⟨gi, rfl, hgl, hcell⟩ := HOp.out (by omega)
        obtain ⟨a, ha⟩ : ∃ a, ids[k]? = some a := ⟨_, List.getElem?_eq_getElem hlt⟩
        have d0 := (hbw.cell (p := ⟨gi, k, none⟩) hgl).trans (hcell k a ha)
        obtain ⟨hua, q, hq⟩ := HRt.out.uids a (List.mem_of_getElem? ha)
        have hqid := find_id hq
        have HA : Hid (ids[k]? = some a ∧ k < ids.length) := ⟨ha, hlt⟩
        have hcall := can_any (p := q) (HRt.out.later hbw) p.id p.since w.heap.size (w.heap.size + 1) g (by rw [hqid]; exact hq) (by rw [hqid]; exact hua)
          ((hb.cell (by have := HB1.out.size; simp; omega)).trans y1) ((hb.cell (by have := HB1.out.size; simp; omega)).trans y2) ((hb.cell (by exact lg)).trans x3)
        rw [hqid] at hcall
        have HC : Hid (Calls Yba.prog 68 #[.int .u64 a, .pointer (some ⟨w.heap.size, 0, none⟩), .pointer (some ⟨w.heap.size + 1, 0, none⟩), .pointer (some ⟨g, 0, none⟩)] wr fun e w' => e = .returned (.bool (canB q p.since)) ∧ Below wr.heap.size wr w') := hcall
        have HCI : Hid (canId ps p.since a = canB q p.since) := by show canId ps p.since a = canB q p.since; simp [canId, hq]
        clear hcell ha hq hqid hcall hb hbb hbw
        go_wp2_with fail
        refine HC.out.mono ?_
        rintro e w2 ⟨rfl, hb2⟩
        have HB2 : Hid (Below w.heap.size w w2) := HBr.out.trans (hb2.mono HBr.out.size)
        have HB21 : Hid (Below w1.heap.size w1 w2) := HB1r.out.trans (hb2.mono HB1r.out.size)
        clear hb2
        cases hcb : canB q p.since with
        | true =>
          have HCB : Hid (canB q p.since = true) := hcb
          go_wp2_with fail
          go_ret
          exact ⟨by rw [bridge_at HA.out.1 (HCI.out.trans HCB.out) HN.out]; rfl, HB2.out⟩
        | false =>
          have HCB : Hid (canB q p.since = false) := hcb
          go_wp2_with fail
          go_roundw
          case rel =>
            refine ⟨k + 1, by have := HA.out.2; omega, by go_num, HB21.out, fun j b hj hb => ?_⟩
            by_cases hjk : j = k
            · subst hjk; rw [HA.out.1] at hb; cases hb; exact HCI.out.trans HCB.out
            · exact HN.out j b (by omega) hb
          case measure => have := HA.out.2; simp [intOf]; omega
      · have hkn : k = ids.length := by omega
        subst hkn
        clear hlt hb hbb hbw
        go_wp2_with fail
        go_ret
        exact ⟨by rw [bridge_none (fun j b hb => HN.out j b (lt_of_get hb) hb)]; rfl, HBr.out⟩
end
end Go.Proofs.Ybulkdkqw.lawS5586AWhole
