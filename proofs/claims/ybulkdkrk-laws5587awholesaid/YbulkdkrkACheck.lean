import Derived.Test.YbulkdkrkALearn
namespace Go.Proofs.Ybulkdkrk.lawS5587AWhole
open Go.ChangeShapes Go.WideShapes Go.ChangeAt Go.RowKit

set_option maxRecDepth 100000 in
set_option maxHeartbeats 4000000 in
theorem check_any (b bi bs bl bt ba n : Nat) (S L : Nat → Int) (rs gr nd r2 g2 : Int) (ok : Bool) (ao : Option Addr) (ce eb off : Nat) (G ES EL : Nat → Int) (ws wl : Nat) (w : World) (hn : n ≤ 1024)
    (hL : Led w b bi bs bl bt ba n (fun i => idOf G (i + 1)) S L (fun i => G i % 2) (fun i => G i + 1) (odds G n) rs gr nd r2 g2 ok) (hE : Ents w ao n eb off G ES EL)
    (hs : w.rowIs ws 23 n (fun i => .int .u64 (S i))) (hl : w.rowIs wl 3 n (fun i => .int .i64 (L i))) :
    Calls Yba.prog 8 #[.pointer (some ⟨b, 0, none⟩), .slice ao n ce, .slice (some ⟨ws, 0, none⟩) n n, .slice (some ⟨wl, 0, none⟩) n n] w fun e w' => e = .returned (.bool true) ∧ Below w.heap.size w w' := by
  obtain ⟨c0, c1, c2, c3, c4, c5, c6, c7, c8, c9, c10, c11, c12, c13⟩ := hL.cells
  have HL : Hid (Led w b bi bs bl bt ba n (fun i => idOf G (i + 1)) S L (fun i => G i % 2) (fun i => G i + 1) (odds G n) rs gr nd r2 g2 ok) := hL
  have HE : Hid (Ents w ao n eb off G ES EL) := hE
  have HS : Hid (w.rowIs ws 23 n (fun i => .int .u64 (S i))) := hs
  have HLd : Hid (w.rowIs wl 3 n (fun i => .int .i64 (L i))) := hl
  clear hL hE hs hl
  go_enter Yba.func8, Yba.ntmps8
  go_wp2_with fail
  refine (ids_any ao n ce eb off G ES EL hn w HE.out).mono ?_
  rintro e w1 ⟨rfl, hb, hrow⟩
  have h1 : Chg [] w w1 := Chg.of_below hb
  have hL1 := HL.out.chg h1 (by simp)
  have hE1 := HE.out.later hb
  have hs1 := h1.row HS.out (by simp)
  have hl1 := h1.row HLd.out (by simp)
  clear HL HE HS HLd c0 c1 c2 c3 c4 c5 c6 c7 c8 c9 c10 c11 c12 c13 h1
  have HL : Hid (Led w1 b bi bs bl bt ba n (fun i => idOf G (i + 1)) S L (fun i => G i % 2) (fun i => G i + 1) (odds G n) rs gr nd r2 g2 ok) := hL1
  have HE : Hid (Ents w1 ao n eb off G ES EL) := hE1
  have HS : Hid (w1.rowIs ws 23 n (fun i => .int .u64 (S i))) := hs1
  have HLd : Hid (w1.rowIs wl 3 n (fun i => .int .i64 (L i))) := hl1
  have HR : Hid (w1.rowIs w.heap.size 23 n (fun i => .int .u64 (idOf G (i + 1)))) := hrow
  have HB : Hid (Below w.heap.size w w1) := hb
  clear hL1 hE1 hs1 hl1 hrow hb
  go_wp2
  go_loopw [11, 12] (fun sn i wr => ∃ k q : Nat, k ≤ n ∧ i = .int .i64 k ∧ sn = .int .i64 (odds G k) ∧ wr = w1.drewN q) (fun _ i _ => n - (intOf i).toNat)
  case atStart => exact ⟨0, 0, Nat.zero_le _, rfl, rfl, rfl⟩
  case round =>
    obtain ⟨k, q, hk, rfl, rfl, rfl⟩ := hrel
    obtain ⟨q0, q1⟩ := odds_bd G k
    obtain ⟨c0, c1, c2, c3, c4, c5, c6, c7, c8, c9, c10, c11, c12, c13⟩ := HL.out.cells
    by_cases hlt : k < n
    · have hout := HE.out.out (by omega)
      subst hout
      have e1 := HE.out.gap k hlt
      obtain ⟨g0, g1⟩ := HE.out.gapB k hlt
      have a1 := HL.out.ids.cell hlt
      have a2 := HL.out.stamp.cell hlt
      have a3 := HL.out.load.cell hlt
      have a4 := HL.out.sent.cell hlt
      have a5 := HL.out.areas.cell hlt
      have a6 := HS.out.cell hlt
      have a7 := HLd.out.cell hlt
      have a8 := HR.out.cell hlt
      have k1 : (k : Int) < (n : Int) := by omega
      have k0 : (0 : Int) ≤ (k : Int) := by omega
      cases hodd : (G k % 2 == 1) with
      | true =>
        have HO : Hid (odds G (k + 1) = odds G k + 1) := show odds G k + G k % 2 = odds G k + 1 by simp at hodd; omega
        go_wp2
        go_quiet (fail)
        go_wp2
        go_quiet (fail)
        go_wp2
        go_roundw
        case rel => exact ⟨k + 1, _, by omega, by go_num, by rw [HO.out], rfl⟩
        case measure => simp [intOf]; omega
      | false =>
        have HO : Hid (odds G (k + 1) = odds G k) := show odds G k + G k % 2 = odds G k by simp at hodd; omega
        go_wp2
        go_quiet (fail)
        go_wp2
        go_quiet (fail)
        go_wp2
        go_roundw
        case rel => exact ⟨k + 1, _, by omega, by go_num, by rw [HO.out], rfl⟩
        case measure => simp [intOf]; omega
    · have hkn : k = n := by omega
      subst hkn
      go_wp2
      go_ret
      exact ⟨rfl, below_drewN HB.out _⟩
end Go.Proofs.Ybulkdkrk.lawS5587AWhole
