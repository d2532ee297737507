import Derived.Test.YbulkdkqwQRegion
import Derived.Deep.RegionWith
namespace Go.Proofs.Ybulkdkqw.lawS5586AWhole
open Go.ChangeShapes Go.WideShapes Go.ChangeAt Go.RowKit

section
variable {w : World} {B Rb : Nat} {sf : Int} {vids : Value} {ids : List Int} {pm um nm mk : Nat} {ps : List Peer} {unm : List Int} {ucnt : Nat}

set_option maxRecDepth 100000 in
set_option maxHeartbeats 1000000 in
/-- asks: the cuts are empty. -/
theorem asks_any (h : Rt w B Rb sf vids ids pm um nm mk ps unm ucnt) {p : Peer} (origin : Int) (hp : ps.find? (fun q => q.id == p.id) = some p) (hid : U p.id) :
    Calls Yba.prog 48 #[.pointer (some ⟨Rb, 0, none⟩), .int .u64 p.id, .int .u64 origin] w fun e w' => e = .returned (.bool ((0 : Int) == sf)) ∧ Below w.heap.size w w' := by
  have c1 := h.c1
  have c3 := h.c3
  have hl := h.pmap.look Yba.underlying27 (zero74 w) hid
  simp [pmF, hp] at hl
  have hpa := h.peers p (List.mem_of_find?_eq_some hp)
  have d4 := hpa.c4
  have d5 := hpa.c5
  have lR : Rb < w.heap.size := World.block_lt_of_cell? w _ c1
  clear h hpa
  go_enter Yba.func48, Yba.ntmps48
  go_wp2_with fail
  refine (cutFind_any 0 origin w).mono ?_
  rintro e w1 ⟨rfl, hb1⟩
  have HB1 : Hid (Below w.heap.size w w1) := hb1
  have c3' := (hb1.cell (p := ⟨Rb, 3, none⟩) lR).trans c3
  have lR1 : Rb < w1.heap.size := Nat.lt_of_lt_of_le lR hb1.size
  clear hb1 hl c1 d4 d5 c3
  go_wp2_with fail
  generalize hwx : World.alloc _ _ = wx
  have hbx : Below w1.heap.size w1 wx := by subst hwx; exact nb (Below.refl _ _) (Nat.le_refl _) _
  have z1 : wx.cell? ⟨w1.heap.size, 1, none⟩ = some (.int .u64 0) := by subst hwx; simp [go_sem]
  clear hwx
  have c3'' := (hbx.cell (p := ⟨Rb, 3, none⟩) lR1).trans c3'
  have HBx : Hid (Below w.heap.size w wx) := HB1.out.trans (hbx.mono HB1.out.size)
  clear hbx
  go_quiet (fail)
  go_wp2_with fail
  go_ret
  exact ⟨rfl, below_drewN HBx.out _⟩

/-- A value put into a slot. -/
def setU (u : Nat → Value) (s : Nat) (v : Value) (t : Nat) : Value := if t = s then v else u t
/-- The slots of the region's operations. -/
def sl68 : Nat → Nat
  | 0 => 16
  | 1 => 17
  | 2 => 18
  | 3 => 19
  | 4 => 20
  | 5 => 21
  | 6 => 15
  | 7 => 22
  | 8 => 23
  | 11 => 8
  | n => n + 1000

/-- What they hand on. -/
def ex68 (blk : Nat) (origin : Int) : Nat → Value
  | 0 => .pointer (some ⟨blk, 0, none⟩)
  | 1 => .pointer (some ⟨blk, 0, none⟩)
  | 2 => .pointer (some ⟨blk, 4, none⟩)
  | 3 => .agg #[.int .u64 0, .slice none 0 0]
  | 4 => .int .u64 origin
  | 5 => .tuple #[.agg #[.int .u64 0, .int .u64 0], .bool false]
  | 6 => .tuple #[.agg #[.int .u64 0, .int .u64 0], .bool false]
  | 7 => .agg #[.int .u64 0, .int .u64 0]
  | 8 => .bool false
  | 11 => .bool false
  | _ => undef

set_option maxRecDepth 100000 in
def fr68 (pid : Int) (b1 b2 b3 blk Rb pm : Nat) (v4 v24 v25 v26 v27 v28 v29 v30 v31 v32 v33 v34 v35 v36 v37 v38 v39 v40 : Value) (u : Nat → Value) : Act := ⟨#[.int .u64 pid, .pointer (some ⟨b1, 0, none⟩), .pointer (some ⟨b2, 0, none⟩), .pointer (some ⟨b3, 0, none⟩), v4, .bool false, .pointer (some ⟨blk, 0, none⟩), u 7, u 8, .pointer (some ⟨Rb, 0, none⟩), .pointer (some ⟨Rb, 0, none⟩), .pointer (some ⟨Rb, 1, none⟩), .map (some pm), .int .u64 pid, .pointer (some ⟨blk, 0, none⟩), u 15, u 16, u 17, u 18, u 19, u 20, u 21, u 22, u 23, v24, v25, v26, v27, v28, v29, v30, v31, v32, v33, v34, v35, v36, v37, v38, v39, v40], []⟩

def good68 (i : Nat) : Bool := i < 12 && i != 9 && i != 10
/-- What holds at every moment of the region. -/
structure G68 (w : World) (blk : Nat) (origin : Int) (d : Nat → Bool) (u : Nat → Value) (w' : World) : Prop where
  bel : Below w.heap.size w w'
  val : ∀ i, good68 i = true → d i = true → u (sl68 i) = ex68 blk origin i
  a9 : d 9 = true → ∃ g, u 7 = .pointer (some ⟨g, 0, none⟩) ∧ w.heap.size ≤ g ∧ ∃ r, w'.rowIs g 144 2 r

theorem sl68_inj (i j : Nat) (hi : good68 i = true) (hj : good68 j = true) (h : sl68 i = sl68 j) : i = j := by
  have hd : ∀ i : Fin 12, ∀ j : Fin 12, good68 i = true → good68 j = true → sl68 i = sl68 j → i.val = j.val := by decide
  have h1 : i < 12 := by simp [good68] at hi; omega
  have h2 : j < 12 := by simp [good68] at hj; omega
  exact hd ⟨i, h1⟩ ⟨j, h2⟩ hi hj h
theorem sl68_7 (i : Nat) (h : good68 i = true) : sl68 i ≠ 7 := by
  have hd : ∀ i : Fin 12, good68 i = true → sl68 i ≠ 7 := by decide
  have h1 : i < 12 := by simp [good68] at h; omega
  exact hd ⟨i, h1⟩ h
section
variable {w w' w2 : World} {blk : Nat} {origin : Int} {d : Nat → Bool} {u : Nat → Value}
theorem G68.put (h : G68 w blk origin d u w') (i : Nat) (hi : good68 i = true) {v : Value} (hv : v = ex68 blk origin i) : G68 w blk origin (fun j => decide (j = i) || d j) (setU u (sl68 i) v) w' where
  bel := h.bel
  val := fun j hj hd => by
    unfold setU
    by_cases e : j = i
    · subst e; rw [if_pos rfl]; exact hv
    · rw [if_neg (fun h => e (sl68_inj j i hj hi h))]
      exact h.val j hj (by simpa [e] using hd)
  a9 := fun hd => by
    have h9 : ¬ 9 = i := fun e => by subst e; simp [good68] at hi
    obtain ⟨g, e, r⟩ := h.a9 (by simpa [h9] using hd)
    exact ⟨g, by unfold setU; rw [if_neg (fun h => sl68_7 i hi h.symm)]; exact e, r⟩
theorem G68.grow (h : G68 w blk origin d u w') (hb : Below w'.heap.size w' w2) : G68 w blk origin d u w2 where
  bel := h.bel.trans (hb.mono h.bel.size)
  val := h.val
  a9 := fun hd => by
    obtain ⟨g, e, hg, r, hr⟩ := h.a9 hd
    exact ⟨g, e, hg, r, hr.of_block (hb.block _ hr.lt)⟩
theorem G68.put9 (h : G68 w blk origin d u w') {z : Array Value} (hz : z.size = 2 := by rfl) : G68 w blk origin (fun j => decide (j = 9) || d j) (setU u 7 (.pointer (some ⟨w'.heap.size, 0, none⟩))) (w'.alloc (.cells z 144)) where
  bel := h.bel.alloc h.bel.size _
  val := fun j hj hd => by
    have hne : ¬ j = 9 := fun e => by subst e; simp [good68] at hj
    unfold setU
    rw [if_neg (sl68_7 j hj)]
    exact h.val j hj (by simpa [hne] using hd)
  a9 := fun _ => by
    refine ⟨w'.heap.size, by simp [setU], h.bel.size, fun i => z.getD i default, z, Deep.blk_alloc_new _ _, hz, fun i hi => ?_⟩
    simp [Array.getD, hz, hi]
theorem G68.put10 (h : G68 w blk origin d u w') (g : Nat) (e : u 7 = .pointer (some ⟨g, 0, none⟩)) (hg : w.heap.size ≤ g) {r : Nat → Value} (hr : w'.rowIs g 144 2 r) {a b : Value} : G68 w blk origin (fun j => decide (j = 10) || d j) u ((w'.setCell ⟨g, 0, none⟩ a).setCell ⟨g, 1, none⟩ b) where
  bel := (h.bel.setCell hg _).setCell hg _
  val := fun j hj hd => by
    have hne : ¬ j = 10 := fun e => by subst e; simp [good68] at hj
    exact h.val j hj (by simpa [hne] using hd)
  a9 := fun _ => ⟨g, e, hg, _, (hr.set 0 _).set 1 _⟩
end

/-- What bridge's closure answers of a peer. -/
def canB (p : Peer) (lost : Int) : Bool := (p.st == 0) && decide (p.since < lost)

set_option maxRecDepth 100000 in
set_option maxHeartbeats 1000000 in
/-- bridge$1. -/
theorem can_any (h : Rt w B Rb sf vids ids pm um nm mk ps unm ucnt) {p : Peer} (origin lost : Int) (b1 b2 b3 : Nat) (hp : ps.find? (fun q => q.id == p.id) = some p) (hid : U p.id)
    (x1 : w.cell? ⟨b1, 0, none⟩ = some (.pointer (some ⟨Rb, 0, none⟩))) (x2 : w.cell? ⟨b2, 0, none⟩ = some (.int .u64 origin)) (x3 : w.cell? ⟨b3, 0, none⟩ = some (.int .u64 lost)) :
    Calls Yba.prog 68 #[.int .u64 p.id, .pointer (some ⟨b1, 0, none⟩), .pointer (some ⟨b2, 0, none⟩), .pointer (some ⟨b3, 0, none⟩)] w fun e w' => e = .returned (.bool (canB p lost)) ∧ Below w.heap.size w w' := by
  have c1 := h.c1
  have hl := h.pmap.look Yba.underlying27 (zero74 w) hid
  simp [pmF, hp] at hl
  have hpa := h.peers p (List.mem_of_find?_eq_some hp)
  have HPA : Hid (PeerAt w p) := hpa
  have d4 := hpa.c4
  have d5 := hpa.c5
  have lp : p.blk < w.heap.size := World.block_lt_of_cell? w _ hpa.c0
  have l3 : b3 < w.heap.size := World.block_lt_of_cell? w _ x3
  have l2 : b2 < w.heap.size := World.block_lt_of_cell? w _ x2
  have hst0 := hpa.st0
  have hst2 := hpa.st2
  clear h hpa
  go_enter Yba.func68, Yba.ntmps68
  go_wp2_with fail
  refine wp_region_inv cmixed (back_of (by kernel_rfl)) (fun d a w' => ∃ u, a = fr68 p.id b1 b2 b3 p.blk Rb pm undef undef undef undef undef undef undef undef undef undef undef undef undef undef undef undef undef undef u ∧ G68 w p.blk origin d u w') ?_ ?_ ?_
  · exact ⟨fun _ => undef, rfl, (Below.refl _ _).drew, by simp, by simp⟩
  · intro d a wx i o hI ho hd hdep
    obtain ⟨u, rfl, hG⟩ := hI
    have m4 := (hG.bel.cell (p := ⟨p.blk, 4, none⟩) lp).trans d4
    have m5 := (hG.bel.cell (p := ⟨p.blk, 5, none⟩) lp).trans d5
    have mx2 := (hG.bel.cell (p := ⟨b2, 0, none⟩) l2).trans x2
    match i with
    | 0 =>
      have ho' := ho
      simp at ho; subst ho
      simp [Region.binds] at hdep
      refine wpOp_plain ho' rfl ?_
      clear ho'
      unfold Oper.wp
      simp only [execOp, fr68]
      go_simp
      exact ⟨_, by simp [setU, ex68, sl68], hG.put 0 (by decide) rfl⟩
    | 1 =>
      have ho' := ho
      simp at ho; subst ho
      simp [Region.binds] at hdep
      refine wpOp_plain ho' rfl ?_
      clear ho'
      have e0 : u 16 = .pointer (some ⟨p.blk, 0, none⟩) := hG.val 0 (by decide) (by simp [hdep])
      unfold Oper.wp
      simp only [execOp, fr68]
      go_simp
      exact ⟨_, by simp [setU, ex68, sl68, e0], hG.put 1 (by decide) rfl⟩
    | 2 =>
      have ho' := ho
      simp at ho; subst ho
      simp [Region.binds] at hdep
      refine wpOp_plain ho' rfl ?_
      clear ho'
      have e1 : u 17 = .pointer (some ⟨p.blk, 0, none⟩) := hG.val 1 (by decide) (by simp [hdep])
      unfold Oper.wp
      simp only [execOp, fr68]
      go_simp
      exact ⟨_, by simp [setU, ex68, sl68, e1], hG.put 2 (by decide) rfl⟩
    | 3 =>
      have ho' := ho
      simp at ho; subst ho
      simp [Region.binds] at hdep
      refine wpOp_plain ho' rfl ?_
      clear ho'
      have e2 : u 18 = .pointer (some ⟨p.blk, 4, none⟩) := hG.val 2 (by decide) (by simp [hdep])
      unfold Oper.wp
      simp only [execOp, fr68]
      go_simp
      exact ⟨_, by simp [setU, ex68, sl68, e2], hG.put 3 (by decide) rfl⟩
    | 4 =>
      have ho' := ho
      simp at ho; subst ho
      simp [Region.binds] at hdep
      refine wpOp_plain ho' rfl ?_
      clear ho'
      unfold Oper.wp
      simp only [execOp, fr68]
      go_simp
      exact ⟨_, by simp [setU, ex68, sl68], hG.put 4 (by decide) rfl⟩
    | 5 =>
      have ho' := ho
      simp at ho; subst ho
      simp [Region.binds] at hdep
      refine wpOp_plain ho' rfl ?_
      clear ho'
      have e3 : u 19 = .agg #[.int .u64 0, .slice none 0 0] := hG.val 3 (by decide) (by simp [hdep])
      have e4 : u 20 = .int .u64 origin := hG.val 4 (by decide) (by simp [hdep])
      unfold Oper.wp
      simp only [execOp, fr68]
      go_simp
      refine (cutFind_any 0 origin wx).mono ?_
      rintro e w1 ⟨rfl, hb1⟩
      exact ⟨_, by simp [setU, ex68, sl68, e3, e4], (hG.grow hb1).put 5 (by decide) rfl⟩
    | 6 =>
      have ho' := ho
      simp at ho; subst ho
      simp [Region.binds] at hdep
      refine wpOp_plain ho' rfl ?_
      clear ho'
      have e5 : u 21 = .tuple #[.agg #[.int .u64 0, .int .u64 0], .bool false] := hG.val 5 (by decide) (by simp [hdep])
      unfold Oper.wp
      simp only [execOp, fr68]
      go_simp
      exact ⟨_, by simp [setU, ex68, sl68, e5], hG.put 6 (by decide) rfl⟩
    | 7 =>
      have ho' := ho
      simp at ho; subst ho
      simp [Region.binds] at hdep
      refine wpOp_plain ho' rfl ?_
      clear ho'
      have e6 : u 15 = .tuple #[.agg #[.int .u64 0, .int .u64 0], .bool false] := hG.val 6 (by decide) (by simp [hdep])
      unfold Oper.wp
      simp only [execOp, fr68]
      go_simp
      exact ⟨_, by simp [setU, ex68, sl68, e6], hG.put 7 (by decide) rfl⟩
    | 8 =>
      have ho' := ho
      simp at ho; subst ho
      simp [Region.binds] at hdep
      refine wpOp_plain ho' rfl ?_
      clear ho'
      have e6 : u 15 = .tuple #[.agg #[.int .u64 0, .int .u64 0], .bool false] := hG.val 6 (by decide) (by simp [hdep])
      unfold Oper.wp
      simp only [execOp, fr68]
      go_simp
      exact ⟨_, by simp [setU, ex68, sl68, e6], hG.put 8 (by decide) rfl⟩
    | 9 =>
      have ho' := ho
      simp at ho; subst ho
      simp [Region.binds] at hdep
      refine wpOp_plain ho' rfl ?_
      clear ho'
      unfold Oper.wp
      simp only [execOp, fr68]
      go_simp
      exact ⟨_, by simp [setU], hG.put9⟩
    | 10 =>
      have ho' := ho
      simp at ho; subst ho
      simp [Region.binds] at hdep
      refine wpOp_plain ho' rfl ?_
      clear ho'
      have e7 : u 22 = .agg #[.int .u64 0, .int .u64 0] := hG.val 7 (by decide) (by simp [hdep])
      obtain ⟨g, e9, hg, r, hr⟩ := hG.a9 (by simp [hdep])
      have k0 := hr.cell (i := 0) (by omega)
      have k1 := hr.cell (i := 1) (by omega)
      have hf0 := hr.frozen 0
      have hf1 := hr.frozen 1
      unfold Oper.wp
      simp only [execOp, fr68]
      go_simp
      exact ⟨u, by simp [e9, e7], hG.put10 g e9 hg hr⟩
    | 11 =>
      have ho' := ho
      simp at ho; subst ho
      simp [Region.binds] at hdep
      refine wpOp_plain ho' rfl ?_
      clear ho'
      have e8 : u 23 = .bool false := hG.val 8 (by decide) (by simp [hdep])
      unfold Oper.wp
      simp only [execOp, fr68]
      go_simp
      exact ⟨_, by simp [setU, ex68, sl68, e8], hG.put 11 (by decide) rfl⟩
    | i + 12 => simp at ho
  · intro d a w1 hI hall
    obtain ⟨u, rfl, hG⟩ := hI
    have e8 : u 8 = .bool false := hG.val 11 (by decide) (hall 11 (by decide))
    have c0' := (hG.bel.cell (p := ⟨p.blk, 0, none⟩) lp).trans HPA.out.c0
    have c1' := (hG.bel.cell (p := ⟨p.blk, 1, none⟩) lp).trans HPA.out.c1
    have x3' := (hG.bel.cell (p := ⟨b3, 0, none⟩) l3).trans x3
    have HB : Hid (Below w.heap.size w w1) := hG.bel
    clear hall hG
    simp only [fr68]
    rw [e8]
    by_cases h0 : p.st = 0
    · have h0b : (p.st == 0) = true := by simpa using h0
      by_cases hl : p.since < lost
      · have hlb : decide (p.since < lost) = true := by simpa using hl
        go_wp2_with fail
        go_quiet (fail)
        go_wp2_with fail
        go_ret
        exact ⟨by simp [canB, h0b, hlb], below_drewN HB.out _⟩
      · have hlb : decide (p.since < lost) = false := by simpa using hl
        clear hl
        go_wp2_with fail
        go_quiet (fail)
        go_wp2_with fail
        go_ret
        exact ⟨by simp [canB, h0b, hlb], below_drewN HB.out _⟩
    · have h0b : (p.st == 0) = false := by simpa using h0
      go_wp2_with fail
      go_quiet (fail)
      go_wp2_with fail
      go_ret
      exact ⟨by simp [canB, h0b], below_drewN HB.out _⟩
end
end Go.Proofs.Ybulkdkqw.lawS5586AWhole
