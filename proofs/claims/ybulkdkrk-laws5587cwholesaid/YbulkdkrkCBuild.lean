import Derived.Test.YbulkdkrkCPlain
namespace Go.Proofs.Ybulkdkrk.lawS5587CWhole
open Go.ChangeShapes Go.WideShapes Go.ChangeAt Go.RowKit Go.Proofs.Ybulkdkrk.lawS5587AWhole

/-- WHAT IS KNOWN OF A SLICE OF ENTRIES THAT CAME IN. -/
structure Src (w : World) (ao : Option Addr) (n b off : Nat) (C : Nat → Nat) (N K : Nat → Int) : Prop where
  out : 0 < n → ao = some ⟨b, off, none⟩
  lt : 0 < n → b < w.heap.size
  c : ∀ i, i < n → w.cell? ⟨b, off + i * 3, none⟩ = some (.int .u8 (C i : Int))
  node : ∀ i, i < n → w.cell? ⟨b, off + i * 3 + 1, none⟩ = some (.int .i64 (N i))
  links : ∀ i, i < n → w.cell? ⟨b, off + i * 3 + 2, none⟩ = some (.int .i64 (K i))
  cB : ∀ i, i < n → C i ≤ 255

theorem Src.later {w w' : World} {ao : Option Addr} {n b off : Nat} {C : Nat → Nat} {N K : Nat → Int} (h : Src w ao n b off C N K) (hb : Below w.heap.size w w') : Src w' ao n b off C N K :=
  ⟨h.out, fun h0 => Nat.lt_of_lt_of_le (h.lt h0) hb.size, fun i hi => (hb.cell (h.lt (by omega))).trans (h.c i hi), fun i hi => (hb.cell (h.lt (by omega))).trans (h.node i hi), fun i hi => (hb.cell (h.lt (by omega))).trans (h.links i hi), h.cB⟩

/-- The pool of contacts. -/
structure Pool (w : World) (g m : Nat) (cs : Nat → Nat) (ID : Nat → Int) : Prop where
  pos : 0 < m
  cell : ∀ j, j < m → w.cell? ⟨g, j, none⟩ = some (.pointer (some ⟨cs j, 0, none⟩))
  known : ∀ j, j < m → Known w ID (cs j)

theorem Pool.lt {w : World} {g m : Nat} {cs : Nat → Nat} {ID : Nat → Int} (h : Pool w g m cs ID) : g < w.heap.size := World.block_lt_of_cell? w _ (h.cell 0 h.pos)
theorem Pool.later {w w' : World} {g m : Nat} {cs : Nat → Nat} {ID : Nat → Int} (h : Pool w g m cs ID) (hb : Below w.heap.size w w') : Pool w' g m cs ID :=
  ⟨h.pos, fun j hj => (hb.cell h.lt).trans (h.cell j hj), fun j hj => (h.known j hj).of_block (hb.block _ (h.known j hj).lt)⟩

/-- What zzs5587cbuild builds. -/
def built (m : Nat) (cs C : Nat → Nat) (N K : Nat → Int) (n : Nat) : List H := (List.range n).map fun i => ⟨N i, cs (C i % m), K i⟩
theorem built_len (m : Nat) (cs C : Nat → Nat) (N K : Nat → Int) (n : Nat) : (built m cs C N K n).length = n := by simp [built]
theorem built_succ (m : Nat) (cs C : Nat → Nat) (N K : Nat → Int) (n : Nat) : built m cs C N K (n + 1) = built m cs C N K n ++ [⟨N n, cs (C n % m), K n⟩] := by simp [built, List.range_succ]
theorem built_ids {w : World} {g m : Nat} {cs : Nat → Nat} {ID : Nat → Int} (h : Pool w g m cs ID) (C : Nat → Nat) (N K : Nat → Int) (n : Nat) : Ids w ID (built m cs C N K n) := by
  intro x hx
  simp [built] at hx
  obtain ⟨i, _, rfl⟩ := hx
  exact h.known _ (Nat.mod_lt _ h.pos)

theorem make61 (l n : Nat) (hl : l ≤ n) (hn : n ≤ 65536) (w : World) :
    (Instr.makeSlice 61 (.int .i64 (l : Int)) (.int .i64 (n : Int))).run Yba.prog w = .ok (.slice (some ⟨w.heap.size, 0, none⟩) l n) (w.alloc (.cells (madeCells #[.int .i64 0, .pointer none, .int .i64 0] (n * 3)) 64)) := by
  cases hj : Yba.prog.info? 64 with
  | none => have := info64; simp [hj] at this
  | some j =>
    have hi := info64
    simp [hj] at hi
    obtain ⟨hz, hs, hby⟩ := hi
    have h := run_make (P := Yba.prog) w 61 64 j _ Yba.underlying61 hj hz .i64 .i64 (l : Int) (n : Int) (by omega) (by omega) (by rw [hby]; omega) (by omega)
    rw [hs] at h
    simp only [Int.toNat_natCast] at h
    exact h

theorem Part.any {w : World} {g cap : Nat} {L : List H} (h : Part w g cap L) {j : Nat} (hj : j < cap * 3) : ∃ u, w.cell? ⟨g, j, none⟩ = some u := by
  obtain ⟨f, hr, _⟩ := h
  exact ⟨_, hr.cell hj⟩

/-- A slice of held nodes made or handed back, nothing old turned. -/
def BackL (L : List H) (w : World) (e : Ending) (w' : World) : Prop := ∃ v, e = .returned v ∧ Hs w' w.heap.size v L ∧ Below w.heap.size w w'

set_option maxRecDepth 100000 in
set_option maxHeartbeats 1000000 in
/-- zzs5587cbuild. -/
theorem build_any (ID : Nat → Int) (g m cap : Nat) (cs : Nat → Nat) (ao : Option Addr) (n c b off : Nat) (C : Nat → Nat) (N K : Nat → Int) (w : World) (hP : Pool w g m cs ID) (hS : Src w ao n b off C N K) (hn : n ≤ 65536) (hm : m ≤ 65537) :
    Calls Yba.prog 9 #[.slice (some ⟨g, 0, none⟩) m cap, .slice ao n c] w fun e w' => BackL (built m cs C N K n) w e w' := by
  have HS : Hid (Src w ao n b off C N K) := hS
  have HP : Hid (Pool w g m cs ID) := hP
  have hm0 : 0 < m := hP.pos
  have lg := hP.lt
  cases ao with
  | none =>
    have hn0 : n = 0 := by
      rcases Nat.eq_zero_or_pos n with h | h
      · exact h
      · have := hS.out h; cases this
    subst hn0
    clear hS hP
    go_enter Yba.func9, Yba.ntmps9
    go_wp2_with fail
    go_ret
    exact ⟨_, rfl, Hs.nil _ _, Below.refl _ _⟩
  | some a =>
    have hmk := make61 n n (Nat.le_refl _) hn
    clear hS hP
    go_enter Yba.func9, Yba.ntmps9
    go_wp2_with fail
    clear hmk
    generalize hwm : World.alloc _ _ = wm
    have HM0 : Hid (Part wm w.heap.size n []) := by subst hwm; exact Part.zero _ _ _
    have HMB : Hid (Below w.heap.size w wm) := by subst hwm; exact nb (Below.refl _ _) (Nat.le_refl _) _
    clear hwm
    go_loopw [15] (fun i wr => ∃ k : Nat, k ≤ n ∧ i = .int .i64 k ∧ Below w.heap.size w wr ∧ Part wr w.heap.size n (built m cs C N K k)) (fun i _ => n - (intOf i).toNat)
    case atStart => exact ⟨0, Nat.zero_le _, rfl, HMB.out, by simpa [built] using HM0.out⟩
    case round =>
      obtain ⟨k, hk, rfl, hb, hpt⟩ := hrel
      have HB : Hid (Below w.heap.size w wr) := hb
      have HPt : Hid (Part wr w.heap.size n (built m cs C N K k)) := hpt
      have lzr : w.heap.size < wr.heap.size := hpt.lt
      by_cases hlt : k < n
      · have e := HS.out.out (by omega)
        cases e
        have lb := HS.out.lt (by omega)
        have d0 := (hb.cell (p := ⟨b, off + k * 3, none⟩) lb).trans (HS.out.c k hlt)
        have d1 := (hb.cell (p := ⟨b, off + k * 3 + 1, none⟩) lb).trans (HS.out.node k hlt)
        have d2 := (hb.cell (p := ⟨b, off + k * 3 + 2, none⟩) lb).trans (HS.out.links k hlt)
        obtain ⟨x0, a0⟩ := hpt.any (j := k * 3) (by omega)
        obtain ⟨x1, a1⟩ := hpt.any (j := k * 3 + 1) (by omega)
        obtain ⟨x2, a2⟩ := hpt.any (j := k * 3 + 2) (by omega)
        have f0 := hpt.frozen (k * 3)
        have f1 := hpt.frozen (k * 3 + 1)
        have f2 := hpt.frozen (k * 3 + 2)
        have HK : Hid (k < n) := hlt
        have cb := HS.out.cB k hlt
        obtain ⟨q, hq⟩ : ∃ q, C k % m = q := ⟨_, rfl⟩
        have hqm : q < m := by rw [← hq]; exact Nat.mod_lt _ hm0
        have hmod : ((C k : Int)).tmod (m : Int) = (q : Int) := by rw [← hq]; exact (Int.ofNat_tmod _ _).symm
        have HQ : Hid (C k % m = q) := hq
        have pc := (hb.cell (p := ⟨g, q, none⟩) lg).trans (HP.out.cell q hqm)
        obtain ⟨ck, hck⟩ : ∃ ck, C k = ck := ⟨_, rfl⟩
        rw [hck] at d0 cb hmod
        have HCK : Hid (C k = ck) := hck
        clear hb hpt hq hck
        go_wp2_with fail
        generalize hwx : World.alloc _ _ = wx
        have hbx : Below wr.heap.size wr wx := by subst hwx; exact nb (Below.refl _ _) (Nat.le_refl _) _
        have szx : wx.heap.size = wr.heap.size + 1 := by subst hwx; simp
        have b0 : wx.cell? ⟨wr.heap.size, 0, none⟩ = some (.int .u8 (ck : Int)) := by subst hwx; simp [go_sem]
        have b1 : wx.cell? ⟨wr.heap.size, 1, none⟩ = some (.int .i64 (N k)) := by subst hwx; simp [go_sem]
        have b2 : wx.cell? ⟨wr.heap.size, 2, none⟩ = some (.int .i64 (K k)) := by subst hwx; simp [go_sem]
        clear hwx
        have a0' := (hbx.cell (p := ⟨w.heap.size, k * 3, none⟩) lzr).trans a0
        have a1' := (hbx.cell (p := ⟨w.heap.size, k * 3 + 1, none⟩) lzr).trans a1
        have a2' := (hbx.cell (p := ⟨w.heap.size, k * 3 + 2, none⟩) lzr).trans a2
        have f0' := (hbx.frozen (p := ⟨w.heap.size, k * 3, none⟩) lzr).trans f0
        have f1' := (hbx.frozen (p := ⟨w.heap.size, k * 3 + 1, none⟩) lzr).trans f1
        have f2' := (hbx.frozen (p := ⟨w.heap.size, k * 3 + 2, none⟩) lzr).trans f2
        have pc' := (hbx.cell (p := ⟨g, q, none⟩) (by simp; omega)).trans pc
        have HX : Hid (Below wr.heap.size wr wx) := hbx
        clear hbx a0 a1 a2 f0 f1 f2 pc d0 d1 d2
        have i1 : (k : Int) < (n : Int) := by omega
        have i2 : (q : Int) < (m : Int) := by omega
        have i4 : ¬ m = 0 := by omega
        have i5 : IntKind.i64.wrap (ck : Int) = ck := by rw [IntKind.wrap_i64]; omega
        refine region_tail 17 (by kernel_rfl) ?_
        simp only [List.take_succ_cons, List.take_zero, List.drop_succ_cons, List.drop_zero]
        repeat still_step
        refine wpStill_nil ?_
        go_wp2_with fail
        go_roundw
        case rel =>
          refine ⟨k + 1, by have := HK.out; omega, by go_num, ?_, ?_⟩
          · have h1 : Below w.heap.size w wx := HB.out.trans (HX.out.mono (by omega))
            exact below_drewN (((h1.setCell (by simp) _).setCell (by simp) _).setCell (by simp) _) 1
          · have hp := HPt.out.of_block (HX.out.block _ lzr)
            have hp2 := hp.push ⟨N k, cs q, K k⟩ (by rw [built_len]; exact HK.out)
            rw [built_len] at hp2
            rw [built_succ, HQ.out]
            exact hp2.of_block rfl
        case measure => have := HK.out; simp [intOf]; omega
      · have hkn : k = n := by omega
        subst hkn
        clear hlt hb hpt
        go_wp2_with fail
        go_ret
        refine ⟨_, rfl, ?_, HB.out⟩
        exact .inr ⟨w.heap.size, k, by rw [built_len]; rfl, Nat.le_refl _, HPt.out, by unfold maxLen; omega⟩

/-- Append of a whole slice to an empty one of the call's own. -/
theorem appAll (w : World) (L : List H) (B : Nat) (v : Value) (ao : Addr) (cap : Nat) (hL : Hs w B v L) (hv : v = .slice (some ao) L.length cap) (hn : L.length ≤ 65536) :
    ∃ v' w', (Builtin.append_ #[61, 61] 61 #[.slice (some ⟨w.heap.size, 0, none⟩) 0 0, v]).run Yba.prog (w.alloc (.cells #[] 64)) = .ok v' w' ∧
      Hs w' w.heap.size v' L ∧ Below w.heap.size w w' := by
  cases hj : Yba.prog.info? 64 with
  | none => have := info64; simp [hj] at this
  | some j =>
    have hi := info64
    simp [hj] at hi
    obtain ⟨hz, hs, hby⟩ := hi
    subst hv
    have hb : Below w.heap.size w (w.alloc (.cells #[] 64)) := (Below.refl _ _).alloc (Nat.le_refl _) _
    have hL1 := hL.later hb
    rcases hL1 with ⟨h, _⟩ | ⟨g, cap', h, hB, hp, hm⟩
    · cases h
    · cases h
      have hown : (w.alloc (.cells #[] 64)).ownsRow w.heap.size 64 3 (.slice (some ⟨w.heap.size, 0, none⟩) 0 0) 0 [] := World.ownsRow_made w #[] 0 (Nat.le_refl _) (by unfold maxLen; omega) rfl
      obtain ⟨v', w', hr, ho, hg, _⟩ := run_append_own (P := Yba.prog) _ w.heap.size 61 61 64 j _ 3 24 Yba.underlying61 hj hz hs hby rfl (by decide) _ 0 [] hown ⟨g, 0, none⟩ L.length cap (flat L) (flat_len L) (by
          intro i u hu
          have hil : i < L.length * 3 := by rw [← flat_len]; rcases Nat.lt_or_ge i (flat L).length with h | h; exact h; rw [List.getElem?_eq_none h] at hu; cases hu
          have he : L[i / 3]? = some L[i / 3] := List.getElem?_eq_getElem (by omega)
          obtain ⟨a, b, c⟩ := flat_get L (i / 3) _ he
          obtain ⟨a', b', c'⟩ := hp.cell he
          have h3 : i = i / 3 * 3 ∨ i = i / 3 * 3 + 1 ∨ i = i / 3 * 3 + 2 := by omega
          have hadd : (⟨g, 0, none⟩ : Addr).add i = ⟨g, i, none⟩ := by unfold Addr.add; split <;> simp_all
          rw [hadd]
          rcases h3 with e | e | e
          · rw [← e] at a a'; rw [a] at hu; cases hu; exact a'
          · rw [← e] at b b'; rw [b] at hu; cases hu; exact b'
          · rw [← e] at c c'; rw [c] at hu; cases hu; exact c')
        (fun u hu => by
          simp only [flat, List.mem_flatMap] at hu
          obtain ⟨x, _, hx⟩ := hu
          simp [H.cs] at hx
          rcases hx with rfl | rfl | rfl <;> rfl) (by unfold maxLen; omega) (by omega) (by simp)
      refine ⟨v', w', hr, ?_, hb.trans (grown_below hg (fun k hk => (hown.lt k hk).1) (by simp))⟩
      refine Hs.of_owns ?_
      simpa using ho

/-- slices.Clone. -/
theorem clone_any (L : List H) (B : Nat) (v : Value) (w : World) (hL : Hs w B v L) (hn : L.length ≤ 65536) :
    Calls Yba.prog 10 #[v] w fun e w' => BackL L w e w' := by
  rcases hL with ⟨rfl, rfl⟩ | ⟨g, cap, rfl, hB, hp, hm⟩
  · go_enter Yba.func10, Yba.ntmps10
    go_wp2_with fail
    go_ret
    exact ⟨_, rfl, Hs.nil _ _, Below.refl _ _⟩
  · obtain ⟨v', w', hrun, hV, hb⟩ := appAll w L B _ ⟨g, 0, none⟩ cap (.inr ⟨g, cap, rfl, hB, hp, hm⟩) rfl hn
    have HV : Hid (Hs w' w.heap.size v' L ∧ Below w.heap.size w w') := ⟨hV, hb⟩
    clear hV hb hp
    go_enter Yba.func10, Yba.ntmps10
    go_wp2_with (at_builtin; refine wpList_append_run 61 hrun rfl _ _ rfl rfl rfl rfl ?_)
    go_ret
    exact ⟨_, rfl, HV.out.1, HV.out.2⟩
end Go.Proofs.Ybulkdkrk.lawS5587CWhole
