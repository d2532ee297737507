import Derived.Test.YbulkdkrkCBase
import Derived.Deep.DeepCutAuto
namespace Go.Proofs.Ybulkdkrk.lawS5587CWhole
open Go.ChangeShapes Go.WideShapes Go.ChangeAt Go.RowKit Go.Proofs.Ybulkdkrk.lawS5587AWhole

theorem below_drewN {B : Nat} {a w : World} (h : Below B a w) (n : Nat) : Below B a (w.drewN n) := h.trans ⟨rfl, rfl, rfl, Nat.le_refl _, fun _ _ => rfl⟩

/-- One more new block, at a world that has grown. -/
theorem nb {B : Nat} {a w : World} (h : Below B a w) (hB : B ≤ a.heap.size) (o : Obj) : Below B a (w.alloc o) := h.alloc (Nat.le_trans hB h.size) o

/-- sameNode: the IDs are the same. -/
theorem same_any (ID : Nat → Int) (h g : H) (w : World) (hi : w.cell? ⟨h.c, 0, none⟩ = some (.int .u64 (ID h.c))) (gi : w.cell? ⟨g.c, 0, none⟩ = some (.int .u64 (ID g.c))) :
    Calls Yba.prog 30 #[h.val, g.val] w fun e w' => e = .returned (.bool (ID h.c == ID g.c)) ∧ Below w.heap.size w w' := by
  have l1 := World.block_lt_of_cell? w _ hi
  have l2 := World.block_lt_of_cell? w _ gi
  simp only [H.val]
  go_enter Yba.func30, Yba.ntmps30
  go_wp2
  go_quiet (fail)
  go_wp2
  go_ret
  exact ⟨rfl, below_drewN (nb (nb (Below.refl _ _) (Nat.le_refl _) _) (Nat.le_refl _) _) _⟩

/-- The node that is held already, or h. -/
def findH (ID : Nat → Int) (L : List H) (h : H) : H := (L.find? (fun g => ID g.c == ID h.c)).getD h

theorem find_at {p : H → Bool} : ∀ {L : List H} {k : Nat} {g : H}, L[k]? = some g → p g = true → (∀ (i : Nat) x, i < k → L[i]? = some x → p x = false) → L.find? p = some g
  | [], k, g, h, _, _ => by simp at h
  | x :: L, 0, g, h, hp, _ => by simp at h; subst h; simp [hp]
  | x :: L, k + 1, g, h, hp, hn => by
    have h0 : p x = false := hn 0 x (by omega) (by simp)
    rw [List.find?_cons, h0]
    exact find_at (k := k) (by simpa using h) hp (fun i y hi hy => hn (i + 1) y (by omega) (by simpa using hy))
theorem find_none {p : H → Bool} : ∀ {L : List H}, (∀ (i : Nat) x, L[i]? = some x → p x = false) → L.find? p = none
  | [], _ => rfl
  | x :: L, hn => by
    have h0 : p x = false := hn 0 x (by simp)
    rw [List.find?_cons, h0]
    exact find_none (fun i y hy => hn (i + 1) y (by simpa using hy))

theorem findH_at {ID : Nat → Int} {A L C : List H} {k : Nat} {g h : H} (hA : ∀ x ∈ A, (ID x.c == ID h.c) = false) (hg : L[k]? = some g) (hp : (ID g.c == ID h.c) = true) (hn : ∀ i x, i < k → L[i]? = some x → (ID x.c == ID h.c) = false) :
    findH ID (A ++ (L ++ C)) h = g := by
  unfold findH
  have : (A ++ (L ++ C)).find? (fun g => ID g.c == ID h.c) = some g := by
    rw [List.find?_append, List.find?_eq_none.2 (fun x hx => by simp [hA x hx]), Option.none_or, List.find?_append, find_at hg hp hn]
    rfl
  rw [this]; rfl

theorem all_of {ID : Nat → Int} {L : List H} {h : H} {n : Nat} (hn : n = L.length) (hf : ∀ i x, i < n → L[i]? = some x → (ID x.c == ID h.c) = false) : ∀ x ∈ L, (ID x.c == ID h.c) = false := by
  intro x hx
  obtain ⟨i, hi, rfl⟩ := List.getElem_of_mem hx
  exact hf i _ (by omega) (List.getElem?_eq_getElem hi)

/-- A new block that holds g. -/
structure Boxed (wr wx : World) (g : H) : Prop where
  below : Below wr.heap.size wr wx
  size : wx.heap.size = wr.heap.size + 1
  c0 : wx.cell? ⟨wr.heap.size, 0, none⟩ = some (.int .i64 g.node)
  c1 : wx.cell? ⟨wr.heap.size, 1, none⟩ = some (.pointer (some ⟨g.c, 0, none⟩))
  c2 : wx.cell? ⟨wr.heap.size, 2, none⟩ = some (.int .i64 g.links)
theorem Boxed.of {wr wx : World} {g : H} (h : wr.alloc (.cells #[.int .i64 g.node, .pointer (some ⟨g.c, 0, none⟩), .int .i64 g.links] 64) = wx) : Boxed wr wx g := by
  subst h
  exact ⟨(Below.refl _ _).alloc (Nat.le_refl _) _, by simp, by simp [go_sem], by simp [go_sem], by simp [go_sem]⟩

/-- A held node handed back, nothing old turned. -/
def Back (x : H) (w : World) (e : Ending) (w' : World) : Prop := e = .returned x.val ∧ Below w.heap.size w w'

set_option maxHeartbeats 1000000 in
/-- zzs5587cfind. -/
theorem find_any (ID : Nat → Int) (pred h : H) (S P : List H) (B : Nat) (vS vP : Value) (w : World) (hS : Hs w B vS S) (hP : Hs w B vP P) (hi : Ids w ID (h :: pred :: (S ++ P))) :
    Calls Yba.prog 17 #[pred.val, vS, vP, h.val] w fun e w' => Back (findH ID (pred :: (S ++ P)) h) w e w' := by
  have mS := hS.len
  have mP := hP.len
  obtain ⟨aS, cS, gS, rfl, oS⟩ := hS.open
  obtain ⟨aP, cP, gP, rfl, oP⟩ := hP.open
  have i1 := (hi h (by simp)).cell
  have i2 := (hi pred (by simp)).cell
  have l1 : h.c < w.heap.size := World.block_lt_of_cell? w _ i1
  have l2 : pred.c < w.heap.size := World.block_lt_of_cell? w _ i2
  have HI : Hid (Ids w ID (h :: pred :: (S ++ P))) := hi
  have HS : Hid (0 < S.length → aS = some ⟨gS, 0, none⟩ ∧ B ≤ gS ∧ Part w gS cS S) := oS
  have HP : Hid (0 < P.length → aP = some ⟨gP, 0, none⟩ ∧ B ≤ gP ∧ Part w gP cP P) := oP
  clear hi oS oP hS hP
  simp only [H.val]
  go_enter Yba.func17, Yba.ntmps17
  go_wp2
  generalize hw3 : World.alloc _ _ = w3
  have b3 : Below w.heap.size w w3 := by subst hw3; exact nb (nb (nb (Below.refl _ _) (Nat.le_refl _) _) (Nat.le_refl _) _) (Nat.le_refl _) _
  have sz : w3.heap.size = w.heap.size + 3 := by subst hw3; simp
  have p0 : w3.cell? ⟨w.heap.size, 0, none⟩ = some (.int .i64 pred.node) := by subst hw3; simp [go_sem]
  have p1 : w3.cell? ⟨w.heap.size, 1, none⟩ = some (.pointer (some ⟨pred.c, 0, none⟩)) := by subst hw3; simp [go_sem]
  have p2 : w3.cell? ⟨w.heap.size, 2, none⟩ = some (.int .i64 pred.links) := by subst hw3; simp [go_sem]
  have q0 : w3.cell? ⟨w.heap.size + 1, 0, none⟩ = some (.int .i64 h.node) := by subst hw3; simp [go_sem]
  have q1 : w3.cell? ⟨w.heap.size + 1, 1, none⟩ = some (.pointer (some ⟨h.c, 0, none⟩)) := by subst hw3; simp [go_sem]
  have q2 : w3.cell? ⟨w.heap.size + 1, 2, none⟩ = some (.int .i64 h.links) := by subst hw3; simp [go_sem]
  have r0 : w3.frozen? ⟨w.heap.size + 1 + 1, 0, none⟩ = false := by subst hw3; simp [go_sem]
  have r1 : w3.frozen? ⟨w.heap.size + 1 + 1, 1, none⟩ = false := by subst hw3; simp [go_sem]
  have r2 : w3.frozen? ⟨w.heap.size + 1 + 1, 2, none⟩ = false := by subst hw3; simp [go_sem]
  have s0 : w3.cell? ⟨w.heap.size + 1 + 1, 0, none⟩ = some (.int .i64 0) := by subst hw3; simp [go_sem]
  have s1 : w3.cell? ⟨w.heap.size + 1 + 1, 1, none⟩ = some (.pointer none) := by subst hw3; simp [go_sem]
  have s2 : w3.cell? ⟨w.heap.size + 1 + 1, 2, none⟩ = some (.int .i64 0) := by subst hw3; simp [go_sem]
  clear hw3
  have j1 : w3.cell? ⟨h.c, 0, none⟩ = some (.int .u64 (ID h.c)) := (b3.cell (by exact l1)).trans i1
  have j2 : w3.cell? ⟨pred.c, 0, none⟩ = some (.int .u64 (ID pred.c)) := (b3.cell (by exact l2)).trans i2
  cases hpq : (ID pred.c == ID h.c) with
  | true =>
    go_quiet (fail)
    go_wp2
    simp [bodyPost, results, Yba.results17, go_sem, s0, s1, s2]
    refine ⟨?_, (((below_drewN b3 _).setCell (by simp; omega) _).setCell (by simp; omega) _).setCell (by simp; omega) _⟩
    rw [show findH ID (pred :: (S ++ P)) h = pred by simp [findH, hpq]]
    rfl
  | false =>
    have HPQ : Hid ((ID pred.c == ID h.c) = false) := hpq
    go_quiet (fail)
    go_wp2_with fail
    generalize hw4 : World.drewN _ _ = w4
    have HB : Hid (Below w.heap.size w w4) := by subst hw4; exact below_drewN b3 _
    have sz4 : w4.heap.size = w.heap.size + 3 := by subst hw4; exact sz
    have cc : ∀ a, w4.cell? a = w3.cell? a := fun a => by subst hw4; rfl
    have cf : ∀ a, w4.frozen? a = w3.frozen? a := fun a => by subst hw4; rfl
    rw [← cc] at q0 q1 q2 s0 s1 s2
    rw [← cf] at r0 r1 r2
    have HC : Hid (w4.cell? ⟨w.heap.size + 1, 0, none⟩ = some (.int .i64 h.node) ∧ w4.cell? ⟨w.heap.size + 1, 1, none⟩ = some (.pointer (some ⟨h.c, 0, none⟩)) ∧ w4.cell? ⟨w.heap.size + 1, 2, none⟩ = some (.int .i64 h.links)) := ⟨q0, q1, q2⟩
    have HR : Hid ((w4.cell? ⟨w.heap.size + 1 + 1, 0, none⟩ = some (.int .i64 0) ∧ w4.cell? ⟨w.heap.size + 1 + 1, 1, none⟩ = some (.pointer none) ∧ w4.cell? ⟨w.heap.size + 1 + 1, 2, none⟩ = some (.int .i64 0)) ∧ w4.frozen? ⟨w.heap.size + 1 + 1, 0, none⟩ = false ∧ w4.frozen? ⟨w.heap.size + 1 + 1, 1, none⟩ = false ∧ w4.frozen? ⟨w.heap.size + 1 + 1, 2, none⟩ = false) := ⟨⟨s0, s1, s2⟩, r0, r1, r2⟩
    clear cc cf hw4 q0 q1 q2 s0 s1 s2 r0 r1 r2 p0 p1 p2 b3 sz j1 j2
    go_loopw [29] (fun i wr => ∃ k : Nat, k ≤ S.length ∧ i = .int .i64 k ∧ Below (w.heap.size + 3) w4 wr ∧ ∀ i x, i < k → S[i]? = some x → (ID x.c == ID h.c) = false) (fun i _ => S.length - (intOf i).toNat)
    case atStart => exact ⟨0, Nat.zero_le _, rfl, Below.refl _ _, fun i x hi => by omega⟩
    case round =>
      obtain ⟨k, hk, rfl, hb, hno⟩ := hrel
      have hbw : Below w.heap.size w wr := HB.out.trans (hb.mono (by omega))
      have q1 : wr.cell? ⟨w.heap.size + 1, 1, none⟩ = some (.pointer (some ⟨h.c, 0, none⟩)) := (hb.cell (by simp)).trans HC.out.2.1
      have j1 : wr.cell? ⟨h.c, 0, none⟩ = some (.int .u64 (ID h.c)) := (hbw.cell (by exact l1)).trans i1
      have HN : Hid (∀ i x, i < k → S[i]? = some x → (ID x.c == ID h.c) = false) := hno
      have lz : w.heap.size + 3 ≤ wr.heap.size := by have := hb.size; omega
      have HHb : Hid (Below (w.heap.size + 3) w4 wr) := hb
      have HHbw : Hid (Below w.heap.size w wr) := hbw
      clear hno hb hbw
      by_cases hlt : k < S.length
      · obtain ⟨rfl, hBg, hpart⟩ := HS.out (by omega)
        obtain ⟨g, hg⟩ : ∃ g, S[k]? = some g := ⟨_, List.getElem?_eq_getElem hlt⟩
        obtain ⟨c0, c1, c2⟩ := hpart.cell hg
        have HG : Hid (S[k]? = some g ∧ k < S.length) := ⟨hg, hlt⟩
        have gi := (HI.out g (by have := List.mem_of_getElem? hg; simp [this])).cell
        have lg : g.c < w.heap.size := World.block_lt_of_cell? w _ gi
        have d0 := (HHbw.out.cell (p := ⟨gS, k * 3, none⟩) hpart.lt).trans c0
        have d1 := (HHbw.out.cell (p := ⟨gS, k * 3 + 1, none⟩) hpart.lt).trans c1
        have d2 := (HHbw.out.cell (p := ⟨gS, k * 3 + 2, none⟩) hpart.lt).trans c2
        have dg := (HHbw.out.cell (p := ⟨g.c, 0, none⟩) (by exact lg)).trans gi
        clear hpart c0 c1 c2 gi i1 i2 hg
        go_wp2_with fail
        generalize hwx : World.alloc _ _ = wx
        have bx := Boxed.of hwx
        obtain ⟨hbx, szx, e0, e1, e2⟩ := bx
        clear hwx
        have q1' := (hbx.cell (p := ⟨w.heap.size + 1, 1, none⟩) (by simp; omega)).trans q1
        have j1' := (hbx.cell (p := ⟨h.c, 0, none⟩) (by simp; omega)).trans j1
        have dg' := (hbx.cell (p := ⟨g.c, 0, none⟩) (by simp; omega)).trans dg
        have HX : Hid (Below (w.heap.size + 3) w4 wx) := HHb.out.trans (hbx.mono lz)
        have HXw : Hid (Below w.heap.size w wx) := HHbw.out.trans (hbx.mono (by omega))
        clear q1 j1 dg d0 d1 d2 hbx
        cases hpg : (ID g.c == ID h.c) with
        | true =>
          go_quiet (fail)
          have s0 := (HX.out.cell (p := ⟨w.heap.size + 1 + 1, 0, none⟩) (by simp)).trans HR.out.1.1
          have s1 := (HX.out.cell (p := ⟨w.heap.size + 1 + 1, 1, none⟩) (by simp)).trans HR.out.1.2.1
          have s2 := (HX.out.cell (p := ⟨w.heap.size + 1 + 1, 2, none⟩) (by simp)).trans HR.out.1.2.2
          have r0 := (HX.out.frozen (p := ⟨w.heap.size + 1 + 1, 0, none⟩) (by simp)).trans HR.out.2.1
          have r1 := (HX.out.frozen (p := ⟨w.heap.size + 1 + 1, 1, none⟩) (by simp)).trans HR.out.2.2.1
          have r2 := (HX.out.frozen (p := ⟨w.heap.size + 1 + 1, 2, none⟩) (by simp)).trans HR.out.2.2.2
          go_wp2
          simp [bodyPost, results, Yba.results17, go_sem, s0, s1, s2]
          refine ⟨?_, (((below_drewN HXw.out _).setCell (by simp; omega) _).setCell (by simp; omega) _).setCell (by simp; omega) _⟩
          rw [show findH ID (pred :: (S ++ P)) h = g from findH_at (A := [pred]) (fun x hx => by simp only [List.mem_singleton] at hx; subst hx; exact HPQ.out) HG.out.1 hpg HN.out]
          rfl
        | false =>
          go_quiet (fail)
          go_wp2_with fail
          have HPG : Hid ((ID g.c == ID h.c) = false) := hpg
          go_roundw
          case rel =>
            refine ⟨k + 1, by have := HG.out.2; omega, by go_num, below_drewN HX.out _, fun i x hi hx => ?_⟩
            by_cases hik : i = k
            · subst hik; rw [HG.out.1] at hx; cases hx; exact HPG.out
            · exact HN.out i x (by omega) hx
          case measure => have := HG.out.2; simp [intOf]; omega
      · have hkn : k = S.length := by omega
        subst hkn
        have HA : Hid (∀ x ∈ pred :: S, (ID x.c == ID h.c) = false) := fun x hx => by
          rcases List.mem_cons.1 hx with rfl | hx
          · exact HPQ.out
          · exact all_of rfl HN.out x hx
        clear hlt HN HPQ
        go_wp2_with fail
        clear q1 j1
        have HW : Hid (Below (w.heap.size + 3) w4 wr) := HHb
        clear HHb HHbw
        go_loopw [50] (fun i wq => ∃ k : Nat, k ≤ P.length ∧ i = .int .i64 k ∧ Below (w.heap.size + 3) w4 wq ∧ ∀ i x, i < k → P[i]? = some x → (ID x.c == ID h.c) = false) (fun i _ => P.length - (intOf i).toNat)
        case atStart => exact ⟨0, Nat.zero_le _, rfl, HW.out, fun i x hi => by omega⟩
        case round =>
          obtain ⟨k, hk, rfl, hb, hno⟩ := hrel
          have hbw : Below w.heap.size w wr := HB.out.trans (hb.mono (by omega))
          have q1 : wr.cell? ⟨w.heap.size + 1, 1, none⟩ = some (.pointer (some ⟨h.c, 0, none⟩)) := (hb.cell (by simp)).trans HC.out.2.1
          have j1 : wr.cell? ⟨h.c, 0, none⟩ = some (.int .u64 (ID h.c)) := (hbw.cell (by exact l1)).trans i1
          have HN : Hid (∀ i x, i < k → P[i]? = some x → (ID x.c == ID h.c) = false) := hno
          have lz : w.heap.size + 3 ≤ wr.heap.size := by have := hb.size; omega
          have HHb : Hid (Below (w.heap.size + 3) w4 wr) := hb
          have HHbw : Hid (Below w.heap.size w wr) := hbw
          clear hno hb hbw
          by_cases hlt : k < P.length
          · obtain ⟨rfl, hBg, hpart⟩ := HP.out (by omega)
            obtain ⟨g, hg⟩ : ∃ g, P[k]? = some g := ⟨_, List.getElem?_eq_getElem hlt⟩
            obtain ⟨c0, c1, c2⟩ := hpart.cell hg
            have HG : Hid (P[k]? = some g ∧ k < P.length) := ⟨hg, hlt⟩
            have gi := (HI.out g (by have := List.mem_of_getElem? hg; simp [this])).cell
            have lg : g.c < w.heap.size := World.block_lt_of_cell? w _ gi
            have d0 := (HHbw.out.cell (p := ⟨gP, k * 3, none⟩) hpart.lt).trans c0
            have d1 := (HHbw.out.cell (p := ⟨gP, k * 3 + 1, none⟩) hpart.lt).trans c1
            have d2 := (HHbw.out.cell (p := ⟨gP, k * 3 + 2, none⟩) hpart.lt).trans c2
            have dg := (HHbw.out.cell (p := ⟨g.c, 0, none⟩) (by exact lg)).trans gi
            clear hpart c0 c1 c2 gi i1 i2 hg
            go_wp2_with fail
            generalize hwx : World.alloc _ _ = wx
            have bx := Boxed.of hwx
            obtain ⟨hbx, szx, e0, e1, e2⟩ := bx
            clear hwx
            have q1' := (hbx.cell (p := ⟨w.heap.size + 1, 1, none⟩) (by simp; omega)).trans q1
            have j1' := (hbx.cell (p := ⟨h.c, 0, none⟩) (by simp; omega)).trans j1
            have dg' := (hbx.cell (p := ⟨g.c, 0, none⟩) (by simp; omega)).trans dg
            have HX : Hid (Below (w.heap.size + 3) w4 wx) := HHb.out.trans (hbx.mono lz)
            have HXw : Hid (Below w.heap.size w wx) := HHbw.out.trans (hbx.mono (by omega))
            clear q1 j1 dg d0 d1 d2 hbx
            cases hpg : (ID g.c == ID h.c) with
            | true =>
              go_quiet (fail)
              have s0 := (HX.out.cell (p := ⟨w.heap.size + 1 + 1, 0, none⟩) (by simp)).trans HR.out.1.1
              have s1 := (HX.out.cell (p := ⟨w.heap.size + 1 + 1, 1, none⟩) (by simp)).trans HR.out.1.2.1
              have s2 := (HX.out.cell (p := ⟨w.heap.size + 1 + 1, 2, none⟩) (by simp)).trans HR.out.1.2.2
              have r0 := (HX.out.frozen (p := ⟨w.heap.size + 1 + 1, 0, none⟩) (by simp)).trans HR.out.2.1
              have r1 := (HX.out.frozen (p := ⟨w.heap.size + 1 + 1, 1, none⟩) (by simp)).trans HR.out.2.2.1
              have r2 := (HX.out.frozen (p := ⟨w.heap.size + 1 + 1, 2, none⟩) (by simp)).trans HR.out.2.2.2
              go_wp2
              simp [bodyPost, results, Yba.results17, go_sem, s0, s1, s2]
              refine ⟨?_, (((below_drewN HXw.out _).setCell (by simp; omega) _).setCell (by simp; omega) _).setCell (by simp; omega) _⟩
              rw [show findH ID (pred :: (S ++ P)) h = g by
                have := findH_at (A := pred :: S) (C := []) HA.out HG.out.1 hpg HN.out
                rwa [List.append_nil] at this]
              rfl
            | false =>
              go_quiet (fail)
              go_wp2_with fail
              have HPG : Hid ((ID g.c == ID h.c) = false) := hpg
              go_roundw
              case rel =>
                refine ⟨k + 1, by have := HG.out.2; omega, by go_num, below_drewN HX.out _, fun i x hi hx => ?_⟩
                by_cases hik : i = k
                · subst hik; rw [HG.out.1] at hx; cases hx; exact HPG.out
                · exact HN.out i x (by omega) hx
              case measure => have := HG.out.2; simp [intOf]; omega
          · have hkn : k = P.length := by omega
            subst hkn
            have hnone : findH ID (pred :: (S ++ P)) h = h := by
              unfold findH
              rw [List.find?_eq_none.2 (fun x hx => ?_)]
              · rfl
              · rw [← List.cons_append] at hx
                rcases List.mem_append.1 hx with hx | hx
                · simp [HA.out x hx]
                · simp [all_of rfl HN.out x hx]
            have HF : Hid (findH ID (pred :: (S ++ P)) h = h) := hnone
            clear hlt HN HA hnone
            have q0 : wr.cell? ⟨w.heap.size + 1, 0, none⟩ = some (.int .i64 h.node) := (HHb.out.cell (by simp)).trans HC.out.1
            have q2 : wr.cell? ⟨w.heap.size + 1, 2, none⟩ = some (.int .i64 h.links) := (HHb.out.cell (by simp)).trans HC.out.2.2
            have s0 := (HHb.out.cell (p := ⟨w.heap.size + 1 + 1, 0, none⟩) (by simp)).trans HR.out.1.1
            have s1 := (HHb.out.cell (p := ⟨w.heap.size + 1 + 1, 1, none⟩) (by simp)).trans HR.out.1.2.1
            have s2 := (HHb.out.cell (p := ⟨w.heap.size + 1 + 1, 2, none⟩) (by simp)).trans HR.out.1.2.2
            have r0 := (HHb.out.frozen (p := ⟨w.heap.size + 1 + 1, 0, none⟩) (by simp)).trans HR.out.2.1
            have r1 := (HHb.out.frozen (p := ⟨w.heap.size + 1 + 1, 1, none⟩) (by simp)).trans HR.out.2.2.1
            have r2 := (HHb.out.frozen (p := ⟨w.heap.size + 1 + 1, 2, none⟩) (by simp)).trans HR.out.2.2.2
            go_wp2_with fail
            simp [bodyPost, results, Yba.results17, go_sem, s0, s1, s2]
            refine ⟨?_, ((HHbw.out.setCell (by simp; omega) _).setCell (by simp; omega) _).setCell (by simp; omega) _⟩
            rw [HF.out]
            rfl
end Go.Proofs.Ybulkdkrk.lawS5587CWhole
