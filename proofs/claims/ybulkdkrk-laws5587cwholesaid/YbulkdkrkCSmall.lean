import Derived.Test.YbulkdkrkCEq
import Derived.StillTail
import Derived.StillTailTactics
namespace Go.Proofs.Ybulkdkrk.lawS5587CWhole
open Go.ChangeShapes Go.WideShapes Go.ChangeAt Go.RowKit Go.Proofs.Ybulkdkrk.lawS5587AWhole

theorem cmixed : Yba.prog.follows .mixedOrders = true := by kernel_rfl

@[go_sem] theorem eqn61 (w : World) (a : Option Addr) (n c : Nat) : (binOp .eql 61 (.slice a n c) (.slice none 0 0)).run Yba.prog w = .ok (.bool a.isNone) w := Lib.run_eql_slice_nil w 61 64 a n c 0 0 Yba.underlying61
@[go_sem] theorem eqn51 (w : World) (a : Option Addr) (n c : Nat) : (binOp .eql 51 (.slice a n c) (.slice none 0 0)).run Yba.prog w = .ok (.bool a.isNone) w := Lib.run_eql_slice_nil w 51 50 a n c 0 0 Yba.underlying51

/-- Reads in any order, then a tail that is forced: one walk, in the order of the text. -/
theorem region_tail {id : Nat} {Q : Exit → Act → World → Prop} {a : Act} {w : World} {l : List Oper} (n : Nat) (hB : Region.lexTailB .any l.toArray n = true)
    (h : wpStill Yba.prog l.toArray w.drew (fun a' => wpList Yba.prog l.toArray Q (l.drop n) a' w.drew) (l.take n) a) : (Code.region id l.toArray true).wp Yba.prog Q a w :=
  wp_region_still_tail n cmixed hB h

@[go_sem] theorem run_store_float {P : Program} (w : World) (a : Addr) (m : Mode) (k : FloatKind) (b : Nat) : (store a (.float k b) m).run P w = stored P w a (.float k b) m := run_store P w a _ m rfl

/-- Ring.ID. -/
theorem id_any (R Pb n x : Nat) (X : Int) (w : World) (hx : x < n) (h2 : w.cell? ⟨R, 2, none⟩ = some (.slice (some ⟨Pb, 0, none⟩) n n)) (hp : w.cell? ⟨Pb, x * 2, none⟩ = some (.int .u64 X)) :
    Calls Yba.prog 28 #[.pointer (some ⟨R, 0, none⟩), .int .i64 x] w fun e w' => e = .returned (.int .u64 X) ∧ w' = w := by
  go_enter Yba.func28, Yba.ntmps28
  go_wp2_with fail
  go_ret
  exact ⟨rfl, rfl⟩

/-- recount, where no links are tracked. -/
theorem recount_any (R : Nat) (a b c : Value) (w : World) (h12 : w.cell? ⟨R, 12, none⟩ = some (.bool false)) :
    Calls Yba.prog 24 #[.pointer (some ⟨R, 0, none⟩), a, b, c] w fun e w' => e = .returned (.tuple #[]) ∧ w' = w := by
  go_enter Yba.func24, Yba.ntmps24
  go_wp2_with fail
  simp [bodyPost, results, Yba.results24]


/-- MaxKey. -/
theorem maxKey_any (w : World) :
    Calls Yba.prog 39 #[.int .i64 16] w fun e w' => e = .returned (.int .u64 65535) ∧ w' = w := by
  go_enter Yba.func39, Yba.ntmps39
  go_wp2_with fail
  go_ret
  exact ⟨rfl, rfl⟩

theorem info53 : (Yba.prog.info? 53).map (fun i => (i.zero, i.size, i.bytes)) = some (some (.pointer none), 1, 8) := by kernel_rfl
theorem make52 (n : Nat) (hn : n ≤ 65536) (w : World) :
    (Instr.makeSlice 52 (.int .i64 (n : Int)) (.int .i64 (n : Int))).run Yba.prog w = .ok (.slice (some ⟨w.heap.size, 0, none⟩) n n) (w.alloc (.cells (madeCells #[.pointer none] n) 53)) :=
  run_make_row' 52 53 (.pointer none) 8 Yba.underlying52 info53 rfl .i64 .i64 n (by omega) (by omega) w

set_option maxRecDepth 100000 in
/-- contacts: some slice. -/
theorem contacts_any (L : List H) (B : Nat) (v : Value) (w : World) (hL : Hs w B v L) (hn : L.length ≤ 65536) :
    Calls Yba.prog 32 #[v] w fun e w' => (∃ ao n c, e = .returned (.slice ao n c)) ∧ Below w.heap.size w w' := by
  have hmk := make52 L.length hn
  rcases hL with ⟨rfl, rfl⟩ | ⟨g, cap, rfl, hb, hp, hm⟩
  · go_enter Yba.func32, Yba.ntmps32
    go_wp2_with fail
    go_ret
    exact ⟨⟨_, _, _, rfl⟩, Below.refl _ _⟩
  · have HP : Hid (Part w g cap L) := hp
    clear hp
    go_enter Yba.func32, Yba.ntmps32
    go_wp2_with fail
    clear hmk
    go_loopw [13] (fun i wr => ∃ k : Nat, k ≤ L.length ∧ i = .int .i64 k ∧ Below w.heap.size w wr ∧ ∃ f, wr.rowIs w.heap.size 53 L.length f) (fun i _ => L.length - (intOf i).toNat)
    case atStart => exact ⟨0, Nat.zero_le _, rfl, (Below.refl _ _).alloc (Nat.le_refl _) _, _, World.rowIs_made w (.pointer none) L.length 53⟩
    case round =>
      obtain ⟨k, hk, rfl, hbel, f, hrow⟩ := hrel
      have HB : Hid (Below w.heap.size w wr) := hbel
      have HR : Hid (wr.rowIs w.heap.size 53 L.length f) := hrow
      have lz : w.heap.size ≤ wr.heap.size := hbel.size
      have lz2 : w.heap.size < wr.heap.size := hrow.lt
      by_cases hlt : k < L.length
      · obtain ⟨x, hx⟩ : ∃ g, L[k]? = some g := ⟨_, List.getElem?_eq_getElem hlt⟩
        obtain ⟨c0, c1, c2⟩ := HP.out.cell hx
        have d0 := (hbel.cell (p := ⟨g, k * 3, none⟩) HP.out.lt).trans c0
        have d1 := (hbel.cell (p := ⟨g, k * 3 + 1, none⟩) HP.out.lt).trans c1
        have d2 := (hbel.cell (p := ⟨g, k * 3 + 2, none⟩) HP.out.lt).trans c2
        have hcell := hrow.cell hlt
        have hfz := hrow.frozen k
        have HK : Hid (k < L.length) := hlt
        clear hbel hrow c0 c1 c2 hx
        go_wp2_with fail
        go_roundw
        case rel => exact ⟨k + 1, by have := HK.out; omega, by go_num, (HB.out.setCell (Nat.le_refl _) _).alloc (by simpa using lz) _, _, (HR.out.set k _).of_block (Deep.blk_alloc_lt _ _ _ (by simpa using lz2))⟩
        case measure => have := HK.out; simp [intOf]; omega
      · have hkn : k = L.length := by omega
        subst hkn
        clear hlt hbel hrow
        go_wp2_with fail
        go_ret
        exact ⟨⟨_, _, _, rfl⟩, HB.out⟩
/-- The value of a State as NewState makes it. -/
def stateVal (two : Bool) (X cp : Value) (p : Nat) (v u : Value) : Value :=
  .agg #[.int .u64 65535, .bool two, X, cp, .pointer (some ⟨p, 0, none⟩), v, u, .slice none 0 0, .slice none 0 0]

def BackS (x : Value) (w : World) (e : Ending) (w' : World) : Prop := e = .returned x ∧ Below w.heap.size w w'

set_option maxRecDepth 100000 in
/-- NewState. -/
theorem newState_any (two : Bool) (X : Int) (cp : Nat) (p : Nat) (ao bo : Option Addr) (n c m d : Nat) (w : World) :
    Calls Yba.prog 33 #[.int .i64 16, .bool two, .agg #[.int .u64 X, .float .f64 cp], .pointer (some ⟨p, 0, none⟩), .slice ao n c, .slice bo m d] w fun e w' =>
      BackS (stateVal two (.int .u64 X) (.float .f64 cp) p (.slice ao n c) (.slice bo m d)) w e w' := by
  go_enter Yba.func33, Yba.ntmps33
  go_wp2_with fail
  refine region_tail 10 (by kernel_rfl) ?_
  simp only [List.take_succ_cons, List.take_zero, List.drop_succ_cons, List.drop_zero]
  still_step
  still_call (maxKey_any _)
  repeat still_step
  refine wpStill_nil ?_
  go_wp2_with fail
  simp [bodyPost, results, Yba.results33, go_sem]
  exact ⟨rfl, below_drewN (nb (nb (Below.refl _ _) (Nat.le_refl _) _) (Nat.le_refl _) _) 1⟩

set_option maxRecDepth 100000 in
/-- SetFingers, no fingers. -/
theorem setFingers_any (Sb x : Nat) (ao : Option Addr) (c : Nat) (a b : Value) (w : World) (f7 : w.frozen? ⟨Sb, x * 9 + 7, none⟩ = false) (f8 : w.frozen? ⟨Sb, x * 9 + 8, none⟩ = false)
     (c7 : w.cell? ⟨Sb, x * 9 + 7, none⟩ = some a) (c8 : w.cell? ⟨Sb, x * 9 + 8, none⟩ = some b) :
    Calls Yba.prog 34 #[.pointer (some ⟨Sb, x * 9, none⟩), .slice ao 0 c] w fun e w' => e = .returned (.tuple #[]) ∧ w' = (w.setCell ⟨Sb, x * 9 + 7, none⟩ (.slice none 0 0)).setCell ⟨Sb, x * 9 + 8, none⟩ (.slice none 0 0) := by
  go_enter Yba.func34, Yba.ntmps34
  go_wp2_with fail
  go_loopw [21] (fun i wr => i = .int .i64 0 ∧ wr = (w.setCell ⟨Sb, x * 9 + 7, none⟩ (.slice none 0 0)).setCell ⟨Sb, x * 9 + 8, none⟩ (.slice none 0 0)) (fun _ _ => 0)
  case atStart => exact ⟨rfl, rfl⟩
  case round =>
    obtain ⟨rfl, rfl⟩ := hrel
    go_wp2_with fail
    simp [bodyPost, results, Yba.results34]
end Go.Proofs.Ybulkdkrk.lawS5587CWhole
