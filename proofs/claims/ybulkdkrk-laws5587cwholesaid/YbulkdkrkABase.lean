import Derived.Test.YbulkdkrkRows
import Derived.WalkKit
import Derived.ProofKit
import Derived.WalkSpells
import Derived.WalkSmall
import Derived.Handy
import Derived.RegionTactic
import Derived.ChangeAlike
import Derived.Deep.OwnRows
import Derived.Deep.RegionLaw
import Derived.Deep.RegionHeld3
import Derived.Deep.QuietTactic
import Derived.BigQuiet
import Derived.BigRegion
namespace Go.Proofs.Ybulkdkrk.lawS5587AWhole
open Go.ChangeShapes Go.WideShapes Go.ChangeAt Go.RowKit

/-- Of what was there in w, the blocks of X alone may have turned. -/
structure Chg (X : List Nat) (w w' : World) : Prop where
  os : w'.os = w.os
  tape : w'.tape = w.tape
  output : w'.output = w.output
  size : w.heap.size ≤ w'.heap.size
  block : ∀ k, k < w.heap.size → k ∉ X → w'.heap[k]? = w.heap[k]?

theorem Chg.refl (X : List Nat) (w : World) : Chg X w w := ⟨rfl, rfl, rfl, Nat.le_refl _, fun _ _ _ => rfl⟩
theorem Chg.trans {X : List Nat} {a b c : World} (h : Chg X a b) (k : Chg X b c) : Chg X a c :=
  ⟨k.os.trans h.os, k.tape.trans h.tape, k.output.trans h.output, Nat.le_trans h.size k.size, fun i hi hx => (k.block i (Nat.lt_of_lt_of_le hi h.size) hx).trans (h.block i hi hx)⟩
theorem Chg.mono {X Y : List Nat} {a b : World} (h : Chg X a b) (hs : ∀ x ∈ X, x ∈ Y) : Chg Y a b := ⟨h.os, h.tape, h.output, h.size, fun k hk hy => h.block k hk (fun hx => hy (hs k hx))⟩
theorem Chg.drew {X : List Nat} {a w : World} (h : Chg X a w) : Chg X a w.drew := ⟨h.os, h.tape, h.output, h.size, h.block⟩
theorem Chg.drewN {X : List Nat} {a w : World} (h : Chg X a w) (n : Nat) : Chg X a (w.drewN n) := h.trans ⟨rfl, rfl, rfl, Nat.le_refl _, fun _ _ _ => rfl⟩
theorem Chg.alloc {X : List Nat} {a w : World} (h : Chg X a w) (o : Obj) : Chg X a (w.alloc o) := h.trans ⟨rfl, rfl, rfl, by simp, fun k hk _ => Deep.blk_alloc_lt _ _ _ hk⟩
theorem Chg.setCell {X : List Nat} {a w : World} (h : Chg X a w) {p : Addr} (hp : p.block ∈ X) (u : Value) : Chg X a (w.setCell p u) :=
  h.trans ⟨rfl, rfl, rfl, by simp, fun k _ hx => Deep.blk_setCell_other _ _ _ _ (fun e => hx (e ▸ hp))⟩
/-- A store into a block that was not there when the call began. -/
theorem Chg.setNew {X : List Nat} {a w : World} (h : Chg X a w) {p : Addr} (hp : a.heap.size ≤ p.block) (u : Value) : Chg X a (w.setCell p u) :=
  ⟨h.os, h.tape, h.output, by simpa using h.size, fun k hk hx => (Deep.blk_setCell_other _ _ _ _ (by omega)).trans (h.block k hk hx)⟩
theorem Chg.of_below {X : List Nat} {w w' : World} (h : Below w.heap.size w w') : Chg X w w' := ⟨h.os, h.tape, h.output, h.size, fun k hk _ => h.block k hk⟩
theorem Chg.below {X : List Nat} {w w' : World} (h : Chg X w w') {B : Nat} (hB : B ≤ w.heap.size) (hX : ∀ x ∈ X, B ≤ x) : Below B w w' :=
  ⟨h.os, h.tape, h.output, h.size, fun k hk => h.block k (by omega) (fun hx => by have := hX k hx; omega)⟩
theorem Chg.cell {X : List Nat} {w w' : World} (h : Chg X w w') {p : Addr} (hp : p.block < w.heap.size) (hx : p.block ∉ X) : w'.cell? p = w.cell? p := World.cell?_of_block (w := w) (h.block p.block hp hx)
theorem Chg.row {X : List Nat} {w w' : World} (h : Chg X w w') {b n : Nat} {t : TypeId} {f : Nat → Value} (hr : w.rowIs b t n f) (hx : b ∉ X) : w'.rowIs b t n f := hr.of_block (h.block b hr.lt hx)

/-- WHAT IS KNOWN OF A SLICE OF ENTRIES THAT CAME IN: gap, stamp and load of entry i. -/
structure Ents (w : World) (ao : Option Addr) (n b off : Nat) (G S L : Nat → Int) : Prop where
  out : 0 < n → ao = some ⟨b, off, none⟩
  lt : 0 < n → b < w.heap.size
  gap : ∀ i, i < n → w.cell? ⟨b, off + i * 3, none⟩ = some (.int .u8 (G i))
  stamp : ∀ i, i < n → w.cell? ⟨b, off + i * 3 + 1, none⟩ = some (.int .u64 (S i))
  load : ∀ i, i < n → w.cell? ⟨b, off + i * 3 + 2, none⟩ = some (.int .i64 (L i))
  gapB : ∀ i, i < n → 0 ≤ G i ∧ G i ≤ 255
  stampB : ∀ i, i < n → 0 ≤ S i ∧ S i ≤ 18446744073709551615

theorem Ents.later {w w' : World} {ao : Option Addr} {n b off : Nat} {G S L : Nat → Int} (h : Ents w ao n b off G S L) (hb : Below w.heap.size w w') : Ents w' ao n b off G S L :=
  ⟨h.out, fun h0 => Nat.lt_of_lt_of_le (h.lt h0) hb.size, fun i hi => (hb.cell (h.lt (by omega))).trans (h.gap i hi), fun i hi => (hb.cell (h.lt (by omega))).trans (h.stamp i hi), fun i hi => (hb.cell (h.lt (by omega))).trans (h.load i hi), h.gapB, h.stampB⟩

/-- The running sum of the gaps: the ID of entry i is 'idOf G (i + 1)'. -/
def idOf (G : Nat → Int) : Nat → Int
  | 0 => 0
  | i + 1 => idOf G i + (G i % 3 + 1)

theorem idOf_bd (G : Nat → Int) (k : Nat) : 0 ≤ idOf G k ∧ idOf G k ≤ 3 * k := by
  induction k with
  | zero => simp [idOf]
  | succ k ih => simp only [idOf]; omega

theorem idOf_lt (G : Nat → Int) {i j : Nat} (h : i < j) : idOf G i < idOf G j := by
  induction j with
  | zero => omega
  | succ j ih =>
    simp only [idOf]
    by_cases e : i = j
    · subst e; omega
    · have := ih (by omega); omega

theorem info3 : (Yba.prog.info? 3).map (fun i => (i.zero, i.size, i.bytes)) = some (some (.int .i64 0), 1, 8) := by kernel_rfl
theorem info23 : (Yba.prog.info? 23).map (fun i => (i.zero, i.size, i.bytes)) = some (some (.int .u64 0), 1, 8) := by kernel_rfl
theorem info21 : (Yba.prog.info? 21).map (fun i => (i.zero, i.size, i.bytes)) = some (some (.int .i32 0), 1, 4) := by kernel_rfl

theorem make31 (n : Nat) (hn : n ≤ 1024) (w : World) :
    (Instr.makeSlice 31 (.int .i64 (n : Int)) (.int .i64 (n : Int))).run Yba.prog w = .ok (.slice (some ⟨w.heap.size, 0, none⟩) n n) (w.alloc (.cells (madeCells #[.int .u64 0] n) 23)) :=
  run_make_row' 31 23 (.int .u64 0) 8 Yba.underlying31 info23 rfl .i64 .i64 n (by omega) (by omega) w
theorem make32 (n : Nat) (hn : n ≤ 1024) (w : World) :
    (Instr.makeSlice 32 (.int .i64 (n : Int)) (.int .i64 (n : Int))).run Yba.prog w = .ok (.slice (some ⟨w.heap.size, 0, none⟩) n n) (w.alloc (.cells (madeCells #[.int .i64 0] n) 3)) :=
  run_make_row' 32 3 (.int .i64 0) 8 Yba.underlying32 info3 rfl .i64 .i64 n (by omega) (by omega) w
theorem make33 (n : Nat) (hn : n ≤ 1024) (w : World) :
    (Instr.makeSlice 33 (.int .i64 (n : Int)) (.int .i64 (n : Int))).run Yba.prog w = .ok (.slice (some ⟨w.heap.size, 0, none⟩) n n) (w.alloc (.cells (madeCells #[.int .i32 0] n) 21)) :=
  run_make_row' 33 21 (.int .i32 0) 4 Yba.underlying33 info21 rfl .i64 .i64 n (by omega) (by omega) w

/-- zzs5587aids: a new row, the running sums. -/
theorem ids_any (ao : Option Addr) (n c b off : Nat) (G S L : Nat → Int) (hn : n ≤ 1024) (w : World) (hE : Ents w ao n b off G S L) :
    Calls Yba.prog 6 #[.slice ao n c] w fun e w' => e = .returned (.slice (some ⟨w.heap.size, 0, none⟩) n n) ∧ Below w.heap.size w w' ∧ w'.rowIs w.heap.size 23 n (fun i => .int .u64 (idOf G (i + 1))) := by
  have hmk := make31 n hn
  go_enter Yba.func6, Yba.ntmps6
  go_wp2
  clear hmk
  go_loopw [4, 5] (fun d i wr => ∃ k : Nat, k ≤ n ∧ i = .int .i64 k ∧ d = .int .u64 (idOf G k) ∧ Below w.heap.size w wr ∧ wr.rowIs w.heap.size 23 n (fun i => .int .u64 (if i < k then idOf G (i + 1) else 0))) (fun _ i _ => n - (intOf i).toNat)
  case atStart =>
    refine ⟨0, Nat.zero_le _, rfl, rfl, (Below.refl _ _).alloc (Nat.le_refl _) _, ?_⟩
    exact (World.rowIs_made w (.int .u64 0) n 23).congr (fun i hi => by simp)
  case round =>
    obtain ⟨k, hk, rfl, rfl, hbel, hrow⟩ := hrel
    by_cases hlt : k < n
    · have hout := hE.out (by omega)
      subst hout
      have hgap : wr.cell? ⟨b, off + k * 3, none⟩ = some (.int .u8 (G k)) := (hbel.cell (by exact hE.lt (by omega))).trans (hE.gap k hlt)
      obtain ⟨g0, g1⟩ := hE.gapB k hlt
      obtain ⟨d0, d1⟩ := idOf_bd G k
      have hcell := hrow.cell hlt
      have hfz := hrow.frozen k
      have Hrow : Hid (wr.rowIs w.heap.size 23 n (fun i => .int .u64 (if i < k then idOf G (i + 1) else 0))) := hrow
      clear hrow
      simp at hcell
      go_wp2
      go_roundw
      case rel =>
        refine ⟨k + 1, by omega, by go_num, rfl, hbel.setCell (Nat.le_refl _) _, ?_⟩
        refine (Hrow.out.set k _).congr (fun i hi => ?_)
        by_cases e : i = k
        · subst e; simp [idOf]
        · rw [if_neg e]
          by_cases e2 : i < k
          · rw [if_pos e2, if_pos (by omega)]
          · rw [if_neg e2, if_neg (by omega)]
      case measure => simp [intOf]; omega
    · have hkn : k = n := by omega
      subst hkn
      have Hrow : Hid (wr.rowIs w.heap.size 23 k (fun i => .int .u64 (if i < k then idOf G (i + 1) else 0))) := hrow
      clear hrow
      go_wp2
      go_ret
      exact ⟨rfl, hbel, Hrow.out.congr (fun i hi => by rw [if_pos hi])⟩
end Go.Proofs.Ybulkdkrk.lawS5587AWhole
