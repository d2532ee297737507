import Derived.Test.YbulkdkpgBParts
namespace Go.Proofs.Ybulkdkpg.lawS5583BWhole
open Go.ChangeShapes Go.WideShapes Go.ChangeAt Go.RowKit

/-- WHAT THE WALK IS TOLD OF THE LOGS: cell i of the outer slice holds the slice (A i, L i, C i), whose cells are 'V i'. -/
structure Logs (w : World) (ao : Option Addr) (len b off : Nat) (A : Nat → Option Addr) (L C EB EO : Nat → Nat) (V : Nat → Nat → Value) : Prop where
  out : 0 < len → ao = some ⟨b, off, none⟩
  lt : 0 < len → b < w.heap.size
  cell : ∀ i, i < len → w.cell? ⟨b, off + i, none⟩ = some (.slice (A i) (L i) (C i))
  nil : ∀ i, i < len → A i = none → L i = 0
  big : ∀ i, i < len → L i ≤ 140737488351232
  row : ∀ i, i < len → 0 < L i → A i = some ⟨EB i, EO i, none⟩ ∧ EB i < w.heap.size
  at_ : ∀ i, i < len → ∀ t, t < L i * 3 → w.cell? ⟨EB i, EO i + t, none⟩ = some (V i t)
  ev : ∀ i, i < len → ∀ j, j < L i → ∃ x y z : Int, V i (j * 3) = .int .u8 x ∧ V i (j * 3 + 1) = .int .i32 y ∧ V i (j * 3 + 2) = .int .i32 z

/-- The copy of row i: nil where the row is nil; else a block of the call's own that holds the row's cells. -/
def Copied (A : Nat → Option Addr) (L : Nat → Nat) (V : Nat → Nat → Value) (wr : World) (B i : Nat) (v : Value) : Prop :=
  (A i = none ∧ v = .slice none 0 0) ∨ ∃ g, A i ≠ none ∧ B < g ∧ v = .slice (some ⟨g, 0, none⟩) (L i) (L i) ∧ wr.heap[g]? = some (.cells ((List.range (L i * 3)).map (V i)).toArray 49 (0, 0))

/-- What the round of the second loop has laid: the new row's block and the outer cell that leads to it. -/
theorem laid_step {w wr : World} {A : Nat → Option Addr} {L C EB EO : Nat → Nat} {V : Nat → Nat → Value} {ao : Option Addr} {k b off j : Nat} (hL : Logs w ao k b off A L C EB EO V) {f : Nat → Value} {v : Value} {c : Array Value}
    (hbel : Below w.heap.size w wr) (hsz : w.heap.size < wr.heap.size) (hrow : wr.rowIs w.heap.size 38 k f) (hjk : j < k) :
    ∃ w2, w2 = (wr.setCell ⟨w.heap.size, j, none⟩ v).alloc (.cells c 49) ∧ w2.cell? ⟨b, off + j, none⟩ = some (.slice (A j) (L j) (C j)) ∧ w2.cell? ⟨w.heap.size, j, none⟩ = some v ∧
      w2.heap[wr.heap.size]? = some (.cells c 49 (0, 0)) ∧ Below w.heap.size w w2 ∧ w2.heap.size = wr.heap.size + 1 ∧ w2.rowIs w.heap.size 38 k (fun i => if i = j then v else f i) ∧ (∀ g, w.heap.size < g → g < wr.heap.size → w2.heap[g]? = wr.heap[g]?) := by
  have hb2 : Below w.heap.size w ((wr.setCell ⟨w.heap.size, j, none⟩ v).alloc (.cells c 49)) := (hbel.setCell (Nat.le_refl _) _).alloc (by simp; omega) _
  have hr2 : ((wr.setCell ⟨w.heap.size, j, none⟩ v).alloc (.cells c 49)).rowIs w.heap.size 38 k (fun i => if i = j then v else f i) := (hrow.set j v).alloc _
  refine ⟨_, rfl, ?_, ?_, ?_, hb2, by simp, hr2, ?_⟩
  · exact (hb2.cell (hL.lt (by omega))).trans (hL.cell j hjk)
  · simpa using hr2.cell hjk
  · rw [show wr.heap.size = (wr.setCell ⟨w.heap.size, j, none⟩ v).heap.size by simp]
    exact Deep.blk_alloc_new _ _
  · intro g h1 h2
    rw [Deep.blk_alloc_lt _ _ _ (by simpa using h2)]
    exact Deep.blk_setCell_other _ _ _ _ (by simp; omega)

theorem src_of {w w2 : World} {A : Nat → Option Addr} {L C EB EO : Nat → Nat} {V : Nat → Nat → Value} {ao : Option Addr} {k b off j : Nat} (hL : Logs w ao k b off A L C EB EO V) (hbel : Below w.heap.size w w2) (hjk : j < k) :
    0 < L j → ∃ ad, A j = some ad ∧ ∀ t v, ((List.range (L j * 3)).map (V j))[t]? = some v → w2.cell? (ad.add t) = some v := by
  intro h0
  obtain ⟨e1, e2⟩ := hL.row j hjk h0
  refine ⟨_, e1, fun t v ht => ?_⟩
  rw [List.getElem?_map] at ht
  obtain ⟨u, hu, rfl⟩ := Option.map_eq_some_iff.1 ht
  obtain ⟨hlt, rfl⟩ := List.getElem?_eq_some_iff.1 hu
  have hlt' : t < L j * 3 := by simpa using hlt
  rw [add_plain, (hbel.cell (by exact e2)), hL.at_ j hjk t hlt']
  simp

theorem one_of {w : World} {A : Nat → Option Addr} {L C EB EO : Nat → Nat} {V : Nat → Nat → Value} {ao : Option Addr} {k b off j : Nat} (hL : Logs w ao k b off A L C EB EO V) (hjk : j < k) :
    ∀ v ∈ (List.range (L j * 3)).map (V j), v.oneCell' = true := by
  intro v hv
  obtain ⟨t, ht, rfl⟩ := List.mem_map.1 hv
  have ht' : t < L j * 3 := by simpa using ht
  obtain ⟨x, y, z, h1, h2, h3⟩ := hL.ev j hjk (t / 3) (by omega)
  have hc : t = t / 3 * 3 ∨ t = t / 3 * 3 + 1 ∨ t = t / 3 * 3 + 2 := by omega
  rcases hc with e | e | e <;> rw [e]
  · rw [h1]; rfl
  · rw [h2]; rfl
  · rw [h3]; rfl

/-- A row of the call's own behind the whole of another row's turn. -/
theorem rowIs_setRow {w : World} {b g n : Nat} {t : TypeId} {f : Nat → Value} (h : w.rowIs b t n f) (hb : b ≠ g) (cs : Array Value) : (w.setRow g cs).rowIs b t n f :=
  h.of_block (setRow_other w g b cs hb)

/-- The second loop's relation behind a round that copied a row. -/
theorem rel_step {w wr w2 : World} {A : Nat → Option Addr} {L C EB EO : Nat → Nat} {V : Nat → Nat → Value} {ao : Option Addr} {k b off j : Nat} {f : Nat → Value} {c : Array Value} (_hL : Logs w ao k b off A L C EB EO V) (hjk : j < k) (hA : A j ≠ none)
    (HD : wr.rowIs w.heap.size 38 k f ∧ (∀ r, r < j → Copied A L V wr w.heap.size r (f r)) ∧ (∀ r, j ≤ r → r < k → f r = .slice none 0 0)) (hsz : w.heap.size < wr.heap.size)
    (HW : Below w.heap.size w w2 ∧ w2.heap.size = wr.heap.size + 1 ∧ w2.rowIs w.heap.size 38 k (fun i => if i = j then .slice (some ⟨wr.heap.size, 0, none⟩) (L j) (L j) else f i) ∧ (∀ g, w.heap.size < g → g < wr.heap.size → w2.heap[g]? = wr.heap[g]?))
    (HC : w2.drew.heap[wr.heap.size]? = some (.cells c 49 (0, 0))) :
    ∃ i : Nat, i ≤ k ∧ Value.int .i64 ((j : Int) + 1) = .int .i64 i ∧ Below w.heap.size w (w2.drew.setRow wr.heap.size ((List.range (L j * 3)).map (V j)).toArray) ∧ w.heap.size < (w2.drew.setRow wr.heap.size ((List.range (L j * 3)).map (V j)).toArray).heap.size ∧
      ∃ f : Nat → Value, (w2.drew.setRow wr.heap.size ((List.range (L j * 3)).map (V j)).toArray).rowIs w.heap.size 38 k f ∧ (∀ r, r < i → Copied A L V (w2.drew.setRow wr.heap.size ((List.range (L j * 3)).map (V j)).toArray) w.heap.size r (f r)) ∧ (∀ r, i ≤ r → r < k → f r = .slice none 0 0) := by
  obtain ⟨hrow, hdone, hrest⟩ := HD
  obtain ⟨h1, h2, h3, h4⟩ := HW
  refine ⟨j + 1, by omega, by go_num, below_setRow h1.drew (by omega) _, by simp [World.setRow]; omega, _, rowIs_setRow h3.drew (by omega) _, fun r hr => ?_, fun r h5 h6 => ?_⟩
  · by_cases e : r = j
    · subst e
      refine .inr ⟨wr.heap.size, hA, hsz, by simp, ?_⟩
      exact setRow_heap _ _ _ _ _ _ HC
    · simp only [if_neg e]
      rcases hdone r (by omega) with ⟨a1, a2⟩ | ⟨g, a1, a2, a3, a4⟩
      · exact .inl ⟨a1, a2⟩
      · have hg : g < wr.heap.size := (Array.getElem?_eq_some_iff.1 a4).1
        refine .inr ⟨g, a1, a2, a3, ?_⟩
        rw [setRow_other _ _ _ _ (by omega)]
        exact (h4 g a2 hg).trans a4
  · rw [if_neg (by omega)]
    exact hrest r (by omega) h6

/-- What stands behind the call of 'all'. -/
theorem behind_all {w wr w3 : World} {A : Nat → Option Addr} {L : Nat → Nat} {V : Nat → Nat → Value} {k : Nat} {f : Nat → Value} {v0 v1 v2 v3 v4 v5 v6 : Value}
    (hbel : Below w.heap.size w wr) (hsz : w.heap.size < wr.heap.size) (HD : wr.rowIs w.heap.size 38 k f ∧ (∀ r, r < k → Copied A L V wr w.heap.size r (f r)))
    (hb3 : Below (wr.alloc (.cells #[v0, v1, v2, v3, v4, v5, v6] 45)).heap.size (wr.alloc (.cells #[v0, v1, v2, v3, v4, v5, v6] 45)) w3) :
    w3.cell? ⟨wr.heap.size, 0, none⟩ = some v0 ∧ w3.cell? ⟨wr.heap.size, 1, none⟩ = some v1 ∧ Below w.heap.size w w3 ∧
      (w3.rowIs w.heap.size 38 k f ∧ (∀ r, r < k → Copied A L V w3 w.heap.size r (f r))) := by
  have hblk : ∀ g, g < wr.heap.size → w3.heap[g]? = wr.heap[g]? := fun g hg => (hb3.block g (by simp; omega)).trans (Deep.blk_alloc_lt _ _ _ hg)
  refine ⟨?_, ?_, (hbel.alloc (by omega) _).trans (hb3.mono (by simp; omega)), HD.1.of_block (hblk _ hsz), fun r hr => ?_⟩
  · rw [hb3.cell (by simp)]; simp
  · rw [hb3.cell (by simp)]; simp
  · rcases HD.2 r hr with ⟨a1, a2⟩ | ⟨g, a1, a2, a3, a4⟩
    · exact .inl ⟨a1, a2⟩
    · exact .inr ⟨g, a1, a2, a3, (hblk g (Array.getElem?_eq_some_iff.1 a4).1).trans a4⟩

/-- The three cells of an event, in the logs and in the copy. -/
theorem row_cells {w w3 : World} {A : Nat → Option Addr} {L C EB EO : Nat → Nat} {V : Nat → Nat → Value} {ao : Option Addr} {k b off j q g : Nat} (hL : Logs w ao k b off A L C EB EO V) (hbel : Below w.heap.size w w3)
    (hg : w3.heap[g]? = some (.cells ((List.range (L j * 3)).map (V j)).toArray 49 (0, 0))) (hj : j < k) (hq : q < L j) :
    ∃ x y z : Int, w3.cell? ⟨EB j, EO j + q * 3, none⟩ = some (.int .u8 x) ∧ w3.cell? ⟨EB j, EO j + q * 3 + 1, none⟩ = some (.int .i32 y) ∧ w3.cell? ⟨EB j, EO j + q * 3 + 2, none⟩ = some (.int .i32 z) ∧
      w3.cell? ⟨g, q * 3, none⟩ = some (.int .u8 x) ∧ w3.cell? ⟨g, q * 3 + 1, none⟩ = some (.int .i32 y) ∧ w3.cell? ⟨g, q * 3 + 2, none⟩ = some (.int .i32 z) := by
  obtain ⟨x, y, z, h1, h2, h3⟩ := hL.ev j hj q hq
  have hb := (hL.row j hj (by omega)).2
  have old : ∀ t, t < L j * 3 → w3.cell? ⟨EB j, EO j + t, none⟩ = some (V j t) := fun t ht => (hbel.cell hb).trans (hL.at_ j hj t ht)
  have new : ∀ t, t < L j * 3 → w3.cell? ⟨g, t, none⟩ = some (V j t) := fun t ht => by simp [World.cell?, hg, ht]
  refine ⟨x, y, z, ?_, ?_, ?_, ?_, ?_, ?_⟩
  · rw [old _ (by omega), h1]
  · rw [Nat.add_assoc, old _ (by omega), h2]
  · rw [Nat.add_assoc, old _ (by omega), h3]
  · rw [new _ (by omega), h1]
  · rw [new _ (by omega), h2]
  · rw [new _ (by omega), h3]

set_option maxRecDepth 100000 in
set_option maxHeartbeats 4000000 in
theorem walk (ao : Option Addr) (len cap b off : Nat) (A : Nat → Option Addr) (L C EB EO : Nat → Nat) (V : Nat → Nat → Value) (ac : Option Addr) (nc cc : Nat) (w : World) (hL : Logs w ao len b off A L C EB EO V) (hlen : len ≤ 140737488351232) :
    Calls Yba.prog 4 #[.slice ao len cap, .slice ac nc cc] w fun e w' => e = .returned (.bool true) ∧ Below w.heap.size w w' := by
  by_cases hbig : 1048576 < len
  · go_enter Yba.func4, Yba.ntmps4
    go_wp2
    go_ret
    exact ⟨rfl, Below.refl _ _⟩
  have hmk := make36 len (by omega)
  go_enter Yba.func4, Yba.ntmps4
  go_wp2
  go_loop [5, 6] (fun t i => ∃ k s : Nat, k ≤ len ∧ i = .int .i64 k ∧ t = .int .i64 s ∧ s ≤ 1048576 ∧ ∀ r, r < k → L r ≤ 1048576) (fun _ i => len - (intOf i).toNat)
  case atStart => exact ⟨0, 0, Nat.zero_le _, rfl, rfl, by omega, fun r h => by omega⟩
  case round =>
    obtain ⟨k, s, hk, rfl, rfl, hs, hsm⟩ := hrel
    by_cases hlt : k < len
    · have hout := hL.out (by omega)
      subst hout
      have hcell := hL.cell k hlt
      have hbg := hL.big k hlt
      have HS : Hid (∀ r, r < k → L r ≤ 1048576) := hsm
      clear hsm hmk
      by_cases hov : 1048576 < s + L k
      · go_wp2
        go_ret
        exact ⟨rfl, Below.refl _ _⟩
      · go_wp2
        go_round
        case rel =>
          refine ⟨k + 1, s + L k, by omega, by go_num, by go_num, by omega, fun r hr => ?_⟩
          by_cases e : r = k
          · subst e; omega
          · exact HS.out r (by omega)
        case measure => simp [intOf]; omega
    · have hkn : k = len := by omega
      subst hkn
      have HS : Hid (∀ r, r < k → L r ≤ 1048576) := hsm
      clear hsm
      go_wp2
      go_loopw [8] (fun i wr => ∃ j : Nat, j ≤ k ∧ i = .int .i64 j ∧ Below w.heap.size w wr ∧ w.heap.size < wr.heap.size ∧ ∃ f : Nat → Value, wr.rowIs w.heap.size 38 k f ∧ (∀ r, r < j → Copied A L V wr w.heap.size r (f r)) ∧ (∀ r, j ≤ r → r < k → f r = .slice none 0 0)) (fun i _ => k - (intOf i).toNat)
      case atStart =>
        exact ⟨0, Nat.zero_le _, rfl, (Below.refl _ _).alloc (Nat.le_refl _) _, by simp, _, World.rowIs_made w (.slice none 0 0) k 38, fun r h => by omega, fun _ _ _ => rfl⟩
      case round =>
        obtain ⟨j, hj, rfl, hbel, hsz, f, hrow, hdone, hrest⟩ := hrel
        by_cases hjk : j < k
        · have hout := hL.out (by omega)
          subst hout
          have hcell : wr.cell? ⟨b, off + j, none⟩ = some (.slice (A j) (L j) (C j)) := (hbel.cell (by exact hL.lt (by omega))).trans (hL.cell j hjk)
          have hown : wr.cell? ⟨w.heap.size, j, none⟩ = some (.slice none 0 0) := (hrow.cell hjk).trans (by rw [hrest j (Nat.le_refl _) hjk])
          have hfz := hrow.frozen j
          have HD : Hid (wr.rowIs w.heap.size 38 k f ∧ (∀ r, r < j → Copied A L V wr w.heap.size r (f r)) ∧ (∀ r, j ≤ r → r < k → f r = .slice none 0 0)) := ⟨hrow, hdone, hrest⟩
          clear hrow hdone hrest hmk
          have q38 : ∀ (w : World) (a : Option Addr) (n c : Nat), (binOp .neq 38 (.slice a n c) (.slice none 0 0)).run Yba.prog w = .ok (.bool (!a.isNone)) w := fun w a n c => run_neq_slice_nil_any w _ _ a n c 0 0 Yba.underlying38
          cases hA : A j with
          | none =>
            rw [hA] at hcell
            go_wp2
            go_roundw
            case rel =>
              obtain ⟨hrow, hdone, hrest⟩ := HD.out
              refine ⟨j + 1, by omega, by go_num, hbel, hsz, f, hrow, fun r hr => ?_, fun r h1 h2 => hrest r (by omega) h2⟩
              by_cases e : r = j
              · subst e; exact .inl ⟨hA, hrest r (Nat.le_refl _) hjk⟩
              · exact hdone r (by omega)
            case measure => simp [intOf]; omega
          | some x =>
            rw [hA] at hcell
            have hLj : L j ≤ 1048576 := HS.out j hjk
            have hmk := make38 (L j) hLj
            go_wp2
            obtain ⟨hrow, hdone, hrest⟩ := HD.out
            obtain ⟨w2, hw2, c1, c2, c3, c4, c5, c6, c7⟩ := laid_step (v := .slice (some ⟨wr.heap.size, 0, none⟩) (L j) (L j)) (c := madeCells #[.int .u8 0, .int .i32 0, .int .i32 0] (L j * 3)) hL hbel hsz hrow hjk
            rw [← hw2]
            rw [hA] at c1
            have HW : Hid (Below w.heap.size w w2 ∧ w2.heap.size = wr.heap.size + 1 ∧ w2.rowIs w.heap.size 38 k (fun i => if i = j then .slice (some ⟨wr.heap.size, 0, none⟩) (L j) (L j) else f i) ∧ (∀ g, w.heap.size < g → g < wr.heap.size → w2.heap[g]? = wr.heap[g]?)) := ⟨c4, c5, c6, c7⟩
            clear hw2 c4 c5 c6 c7 hrow hdone hrest hbel hcell hown hfz hmk
            have HC3 : Hid (w2.drew.heap[wr.heap.size]? = some (.cells (madeCells #[.int .u8 0, .int .i32 0, .int .i32 0] (L j * 3)) 49 (0, 0))) := c3
            clear c3
            have HSRC : Hid (0 < L j → ∃ ad, some x = some ad ∧ ∀ t v, ((List.range (L j * 3)).map (V j))[t]? = some v → w2.drew.cell? (ad.add t) = some v) := by
              rw [← hA]; exact src_of hL HW.out.1.drew hjk
            have HONE : Hid (∀ v ∈ (List.range (L j * 3)).map (V j), v.oneCell' = true) := one_of hL hjk
            go_region_law (refine step_copy_all rfl (.tmp 58) (.tmp 62) 38 38 rfl 49 3 Yba.underlying38 (by kernel_rfl) wr.heap.size (L j) (L j) (C j) (some x) (by simp [Act.eval]) (by simp [Act.eval]) _ _ HC3.out ((List.range (L j * 3)).map (V j)) (by simp) (size_madeCells _ _) HSRC.out HONE.out ?_)
            all_goals
              go_wp2
              go_roundw
              case rel =>
                exact rel_step hL hjk (by rw [hA]; simp) HD.out hsz HW.out HC3.out
              case measure => simp [intOf]; omega
        · have hjn : j = k := by omega
          subst hjn
          have HD : Hid (wr.rowIs w.heap.size 38 j f ∧ (∀ r, r < j → Copied A L V wr w.heap.size r (f r))) := ⟨hrow, hdone⟩
          clear hrow hdone hrest hmk
          have q42 : ∀ (w : World) (a : Option Addr) (n c : Nat), (binOp .eql 42 (.slice a n c) (.slice none 0 0)).run Yba.prog w = .ok (.bool a.isNone) w := fun w a n c => Lib.run_eql_slice_nil w _ _ a n c 0 0 Yba.underlying42
          go_wp2_with fail
          refine (all_any wr.heap.size j cap ao (by omega) _ (by go_simp)).mono ?_
          rintro e w3 ⟨rfl, hb3, hids⟩
          obtain ⟨c1, c2, c3, c4⟩ := behind_all hbel hsz HD.out hb3
          have HD3 : Hid (w3.rowIs w.heap.size 38 j f ∧ (∀ r, r < j → Copied A L V w3 w.heap.size r (f r))) := c4
          have HI3 : Hid (w3.rowIs (wr.heap.size + 1) 3 j (fun i => .int .i64 ((i : Int) + 1))) := show w3.rowIs (wr.heap.size + 1) 3 j (fun i => .int .i64 ((i : Int) + 1)) by simpa using hids
          clear hb3 hids hbel HD c4
          go_wp2
          go_loop [11] (fun i => ∃ k : Nat, k ≤ j ∧ i = .int .i64 k) (fun i => j - (intOf i).toNat)
          case atStart => exact ⟨0, Nat.zero_le _, rfl⟩
          case round =>
            obtain ⟨k3, hk3, rfl⟩ := hrel
            by_cases hlt3 : k3 < j
            · have hcell := HI3.out.cell hlt3
              go_wp2
              go_round
              case rel => exact ⟨k3 + 1, by omega, by go_num⟩
              case measure => simp [intOf]; omega
            · go_wp2
              have q38 : ∀ (w : World) (a : Option Addr) (n c : Nat), (binOp .eql 38 (.slice a n c) (.slice none 0 0)).run Yba.prog w = .ok (.bool a.isNone) w := fun w a n c => Lib.run_eql_slice_nil w _ _ a n c 0 0 Yba.underlying38
              clear HI3 q42
              go_loopw [12] (fun i wx => ∃ k m : Nat, k ≤ j ∧ i = .int .i64 k ∧ wx = w3.drewN m) (fun i _ => j - (intOf i).toNat)
              case atStart => exact ⟨0, 0, Nat.zero_le _, rfl, rfl⟩
              case round =>
                obtain ⟨k4, m, hk4, rfl, rfl⟩ := hrel
                by_cases hlt4 : k4 < j
                · have hout := hL.out (by omega)
                  subst hout
                  have hcell : w3.cell? ⟨b, off + k4, none⟩ = some (.slice (A k4) (L k4) (C k4)) := (c3.cell (by exact hL.lt (by omega))).trans (hL.cell k4 hlt4)
                  have hmine := HD3.out.1.cell hlt4
                  have i1 : (k4 : Int) < (j : Int) := by omega
                  have i0 : (0 : Int) ≤ (k4 : Int) := by omega
                  rcases HD3.out.2 k4 hlt4 with ⟨e1, e2⟩ | ⟨g, e1, e2, e3, e4⟩
                  · have e5 := hL.nil k4 hlt4 e1
                    rw [e1, e5] at hcell
                    rw [e2] at hmine
                    clear e1 e2 e5
                    go_wp2
                    go_quiet (fail)
                    go_wp2
                    refine wp_loop_rounds 1 ?_
                    rw [rounds_succ]
                    go_wp2
                    go_roundw
                    case rel => exact ⟨k4 + 1, _, by omega, by go_num, rfl⟩
                    case measure => simp [intOf]; omega
                  · obtain ⟨x, hx⟩ := Option.ne_none_iff_exists'.1 e1
                    rw [hx] at hcell
                    rw [e3] at hmine
                    clear e1 e2 e3
                    go_wp2
                    go_quiet (fail)
                    go_wp2
                    go_loopw [13] (fun i wx => ∃ q m : Nat, q ≤ L k4 ∧ i = .int .i64 q ∧ wx = w3.drewN m) (fun i _ => L k4 - (intOf i).toNat)
                    case atStart => exact ⟨0, _, Nat.zero_le _, rfl, World.drewN_drewN _ _ _⟩
                    case round =>
                      obtain ⟨q, m2, hq, rfl, rfl⟩ := hrel
                      have hLk : L k4 ≤ 1048576 := HS.out k4 hlt4
                      by_cases hlq : q < L k4
                      · obtain ⟨a1, a2⟩ := hL.row k4 hlt4 (by omega)
                        rw [hx] at a1
                        obtain rfl := Option.some.inj a1
                        obtain ⟨x1, x2, x3, g1, g2, g3, g4, g5, g6⟩ := row_cells hL c3 e4 hlt4 hlq
                        have j1 : (q : Int) < (L k4 : Int) := by omega
                        have j0 : (0 : Int) ≤ (q : Int) := by omega
                        clear hx a1 e4
                        go_wp2
                        go_quiet (fail)
                        go_wp2
                        go_roundw
                        case rel => exact ⟨q + 1, _, by omega, by go_num, rfl⟩
                        case measure => simp [intOf]; omega
                      · go_wp2
                        go_roundw
                        case rel => exact ⟨k4 + 1, _, by omega, by go_num, rfl⟩
                        case measure => simp [intOf]; omega
                · go_wp2
                  go_ret
                  exact ⟨rfl, below_drewN c3 _⟩
end Go.Proofs.Ybulkdkpg.lawS5583BWhole
