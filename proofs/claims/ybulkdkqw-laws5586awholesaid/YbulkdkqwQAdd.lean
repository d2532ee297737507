import Derived.Test.YbulkdkqwQMod
import Derived.Laws.MakeOwn
import Derived.Laws.OwnMore
namespace Go.Proofs.Ybulkdkqw.lawS5586AWhole
open Go.ChangeShapes Go.WideShapes Go.ChangeAt Go.RowKit

theorem below_of_none {w w' : World} (h : w.grownBy w' none) : Below w.heap.size w w' := ⟨h.os, h.tape, h.output, h.size, fun k hk => h.block k hk (by simp)⟩

/-- An empty slice with room. -/
theorem make0 {α : Type} {E : Enc α} {T t : TypeId} {z : Value} {bytes : Nat} (w : World) (c : Nat) (hT : Yba.prog.underlying T = some (.slice t)) (hi : (Yba.prog.info? t).map (fun i => (i.zero, i.size, i.bytes)) = some (some z, E.s, bytes)) (hby : bytes ≤ 1000) (hc : c ≤ 1000000) :
    ∃ w', (Instr.makeSlice T (.int .i64 0) (.int .i64 (c : Int))).run Yba.prog w = .ok (.slice (some ⟨w.heap.size, 0, none⟩) 0 c) w' ∧ Sl E t w' w.heap.size (.slice (some ⟨w.heap.size, 0, none⟩) 0 c) [] ∧ Below w.heap.size w w' := by
  cases hj : Yba.prog.info? t with
  | none => simp [hj] at hi
  | some j =>
    simp [hj] at hi
    obtain ⟨h1, h2, h3⟩ := hi
    have hbb : j.bytes * c ≤ 1000 * 1000000 := Nat.mul_le_mul (by omega) hc
    obtain ⟨w', hr, ho, hg⟩ := run_make_own (P := Yba.prog) w w.heap.size T t j z E.s hT hj h1 h2 .i64 .i64 c (by omega) (by unfold maxLen; omega) (Nat.le_refl _)
    exact ⟨w', hr, ho, below_of_none hg⟩

/-- One round of add. -/
def stepA (k : KM) (st : List KM × Bool) (y : KM) : List KM × Bool := if !st.2 && decide (k.seq < y.seq) then (st.1 ++ [k] ++ [y], true) else (st.1 ++ [y], st.2)
def addL (k : KM) (L : List KM) : List KM × Bool := L.foldl (stepA k) ([], false)

theorem addL_true (k : KM) : ∀ (L A : List KM), L.foldl (stepA k) (A, true) = (A ++ L, true)
  | [], A => by simp
  | y :: L, A => by
    rw [List.foldl_cons]
    have : stepA k (A, true) y = (A ++ [y], true) := by simp [stepA]
    rw [this, addL_true k L]
    simp
theorem addL_false (k : KM) : ∀ (L A : List KM), (∀ x ∈ L, x.seq ≠ k.seq) → (if (L.foldl (stepA k) (A, false)).2 = true then (L.foldl (stepA k) (A, false)).1 else (L.foldl (stepA k) (A, false)).1 ++ [k]) = A ++ ins L k
  | [], A, _ => by simp [ins]
  | y :: L, A, h => by
    have hy : ¬ k.seq = y.seq := fun e => h y (by simp) e.symm
    rw [List.foldl_cons]
    by_cases hlt : k.seq < y.seq
    · have : stepA k (A, false) y = (A ++ [k] ++ [y], true) := by simp [stepA, hlt]
      rw [this, addL_true]
      simp [ins, hy, hlt]
    · have : stepA k (A, false) y = (A ++ [y], false) := by simp [stepA, hlt]
      rw [this, addL_false k L (A ++ [y]) (fun x hx => h x (by simp [hx]))]
      simp [ins, hy, hlt]
theorem addL_len (k : KM) (L : List KM) : (addL k L).1.length ≤ L.length + 1 := by
  have key : ∀ (L A : List KM) (b : Bool), (L.foldl (stepA k) (A, b)).1.length ≤ A.length + L.length + (if b then 0 else 1) := by
    intro L
    induction L with
    | nil => intro A b; simp
    | cons y L ih =>
      intro A b
      rw [List.foldl_cons]
      cases b with
      | true =>
        rw [show stepA k (A, true) y = (A ++ [y], true) by simp [stepA]]
        have := ih (A ++ [y]) true
        simp at this ⊢
        omega
      | false =>
        by_cases hlt : k.seq < y.seq
        · rw [show stepA k (A, false) y = (A ++ [k] ++ [y], true) by simp [stepA, hlt]]
          have := ih (A ++ [k] ++ [y]) true
          simp at this ⊢
          omega
        · rw [show stepA k (A, false) y = (A ++ [y], false) by simp [stepA, hlt]]
          have := ih (A ++ [y]) false
          simp at this ⊢
          omega
  have := key L [] false
  simp at this
  unfold addL
  omega

set_option maxRecDepth 1000000 in
set_option maxHeartbeats 2000000 in
/-- The model's add. -/
theorem add_any (L : List KM) (k : KM) (B : Nat) (v : Value) (w : World) (hL : Sl EK 63 w B v L) (hB : B ≤ w.heap.size) (hr : Rising L) (hn : L.length ≤ 5000) :
    Calls Yba.prog 32 #[v, k.val] w fun e w' => ∃ v', e = .returned v' ∧ Sl EK 63 w' B v' (ins L k) ∧ Below w.heap.size w w' := by
  have HL : Hid (Sl EK 63 w B v L) := hL
  have HR : Hid (Rising L) := hr
  obtain ⟨ao, cap, rfl, hop⟩ := hL.open
  have HOp : Hid (0 < L.length → ∃ g, ao = some ⟨g, 0, none⟩ ∧ g < w.heap.size ∧ ∀ (i : Nat) (x : KM), L[i]? = some x → ∀ (j : Nat) (u : Value), (EK.cs x)[j]? = some u → w.cell? ⟨g, i * 3 + j, none⟩ = some u) := fun h0 => by
    obtain ⟨g, h1, _, h2, _, _, h3⟩ := hop h0
    exact ⟨g, h1, h2, h3⟩
  clear hL hr hop
  obtain ⟨ks, ka, kl, kc, kf⟩ := k
  simp only [KM.val]
  go_enter Yba.func32, Yba.ntmps32
  go_wp2_with fail
  generalize hwb : World.alloc _ _ = wb
  have hbb : Below w.heap.size w wb := by subst hwb; exact nb (Below.refl _ _) (Nat.le_refl _) _
  have hsz : wb.heap.size = w.heap.size + 1 := by subst hwb; simp
  have x0 : wb.cell? ⟨w.heap.size, 0, none⟩ = some (.int .u64 ks) := by subst hwb; simp [go_sem]
  have x1 : wb.cell? ⟨w.heap.size, 1, none⟩ = some (.slice ka kl kc) := by subst hwb; simp [go_sem]
  have x2 : wb.cell? ⟨w.heap.size, 2, none⟩ = some (.int .u64 kf) := by subst hwb; simp [go_sem]
  clear hwb
  have HX : Hid (∀ wq, Below wb.heap.size wb wq → wq.cell? ⟨w.heap.size, 0, none⟩ = some (.int .u64 ks) ∧ wq.cell? ⟨w.heap.size, 1, none⟩ = some (.slice ka kl kc) ∧ wq.cell? ⟨w.heap.size, 2, none⟩ = some (.int .u64 kf)) := fun wq hq =>
    ⟨(hq.cell (p := ⟨w.heap.size, 0, none⟩) (by show w.heap.size < _; omega)).trans x0, (hq.cell (p := ⟨w.heap.size, 1, none⟩) (by show w.heap.size < _; omega)).trans x1, (hq.cell (p := ⟨w.heap.size, 2, none⟩) (by show w.heap.size < _; omega)).trans x2⟩
  have HBb : Hid (Below w.heap.size w wb) := hbb
  clear x0 x1 x2 hbb
  go_loopw [5] (fun i wr => ∃ j : Nat, j ≤ L.length ∧ i = .int .i64 j ∧ Below wb.heap.size wb wr ∧ ∀ x ∈ L.take j, x.seq ≠ ks) (fun i _ => L.length - (intOf i).toNat)
  case atStart => exact ⟨0, Nat.zero_le _, rfl, Below.refl _ _, by simp⟩
  case round =>
    obtain ⟨j, hj, rfl, hb, hno⟩ := hrel
    have HB : Hid (Below wb.heap.size wb wr) := hb
    have HB0 : Hid (Below w.heap.size w wr) := HBb.out.trans (hb.mono (by omega))
    have HN : Hid (∀ x ∈ L.take j, x.seq ≠ ks) := hno
    obtain ⟨x0, x1, x2⟩ := HX.out wr hb
    clear hb hno
    by_cases hlt : j < L.length
    · obtain ⟨g, rfl, hgl, hcell⟩ := HOp.out (by omega)
      obtain ⟨y, hy⟩ : ∃ y, L[j]? = some y := ⟨_, List.getElem?_eq_getElem hlt⟩
      have d0 := (HB0.out.cell (p := ⟨g, j * 3 + 0, none⟩) hgl).trans (hcell j y hy 0 _ rfl)
      simp only [Nat.add_zero] at d0
      have HA : Hid (L[j]? = some y ∧ j < L.length) := ⟨hy, hlt⟩
      have i1 : (j : Int) < (L.length : Int) := by omega
      clear hcell hy
      by_cases he : y.seq = ks
      · have heb : (y.seq == ks) = true := by simpa using he
        have HT : Hid (ins L ⟨ks, ka, kl, kc, kf⟩ = L) := ins_same L _ j y HR.out HA.out.1 he
        clear he hlt
        go_wp2_with fail
        go_quiet (fail)
        go_wp2_with fail
        go_ret
        refine ⟨_, rfl, ?_, below_drewN HB0.out _⟩
        rw [HT.out]
        exact (HL.out.later HB0.out).later (below_drewN (Below.refl _ _) _)
      · have heb : (y.seq == ks) = false := by simpa using he
        have HE : Hid (¬ y.seq = ks) := he
        clear he hlt
        go_wp2_with fail
        go_quiet (fail)
        go_wp2_with fail
        go_roundw
        case rel =>
          refine ⟨j + 1, by have := HA.out.2; omega, by go_num, below_drewN HB.out _, fun x hx => ?_⟩
          rw [List.take_add_one, HA.out.1] at hx
          rcases List.mem_append.1 hx with hx | hx
          · exact HN.out x hx
          · simp at hx; rw [hx]; exact HE.out
        case measure => have := HA.out.2; simp [intOf]; omega
    · have hjn : j = L.length := by omega
      subst hjn
      have HNo : Hid (∀ x ∈ L, x.seq ≠ ks) := fun x hx => HN.out x (by rw [List.take_length]; exact hx)
      clear hlt HN
      obtain ⟨wm, hmk, hsm, hbm⟩ := make0 (E := EK) (T := 68) wr (L.length + 1) Yba.underlying68 info63 (by decide) (by omega)
      have hmk' : (Instr.makeSlice 68 (.int .i64 0) (.int .i64 ((L.length : Int) + 1))).run Yba.prog wr = .ok (.slice (some ⟨wr.heap.size, 0, none⟩) 0 (L.length + 1)) wm := by rw [← hmk]; rfl
      have HSm : Hid (Sl EK 63 wm wr.heap.size (.slice (some ⟨wr.heap.size, 0, none⟩) 0 (L.length + 1)) []) := hsm
      have HBm : Hid (Below wr.heap.size wr wm) := hbm
      have HBmb : Hid (Below wb.heap.size wb wm) := HB.out.trans (hbm.mono HB.out.size)
      have HBm0 : Hid (Below w.heap.size w wm) := HB0.out.trans (hbm.mono HB0.out.size)
      have hwm : wr.heap.size ≤ wm.heap.size := hbm.size
      have hwbr : wb.heap.size ≤ wr.heap.size := HB.out.size
      clear hmk hsm hbm x0 x1 x2
      obtain ⟨ws, hws⟩ : ∃ ws, ws = wr := ⟨_, rfl⟩
      subst hws
      go_wp2_with fail
      have HLt : Hid (∀ k L, (addL k L).1.length ≤ L.length + 1) := addL_len
      have HSt : Hid (∀ (j : Nat) (y : KM), L[j]? = some y → addL ⟨ks, ka, kl, kc, kf⟩ (L.take (j + 1)) = stepA ⟨ks, ka, kl, kc, kf⟩ (addL ⟨ks, ka, kl, kc, kf⟩ (L.take j)) y) := fun j y hy => by
        unfold addL
        rw [List.take_add_one, hy, List.foldl_append]
        rfl
      go_loopw [6, 7, 8] (fun vo pl i wr => ∃ j : Nat, j ≤ L.length ∧ i = .int .i64 j ∧ pl = .bool (addL ⟨ks, ka, kl, kc, kf⟩ (L.take j)).2 ∧ Sl EK 63 wr ws.heap.size vo (addL ⟨ks, ka, kl, kc, kf⟩ (L.take j)).1 ∧ Below ws.heap.size ws wr) (fun _ _ i _ => L.length - (intOf i).toNat)
      case atStart => exact ⟨0, Nat.zero_le _, rfl, rfl, HSm.out, HBm.out⟩
      case round =>
        obtain ⟨j, hj, rfl, rfl, hsl, hb⟩ := hrel
        have hws := hb.size
        have HBs : Hid (Below ws.heap.size ws wr) := hb
        have HBr : Hid (Below wb.heap.size wb wr) := HB.out.trans (hb.mono hwbr)
        have HBr0 : Hid (Below w.heap.size w wr) := HB0.out.trans (hb.mono HB0.out.size)
        have HSl : Hid (Sl EK 63 wr ws.heap.size u6 (addL ⟨ks, ka, kl, kc, kf⟩ (L.take j)).1) := hsl
        have hlen := HLt.out ⟨ks, ka, kl, kc, kf⟩ (L.take j)
        have hlen2 : (addL ⟨ks, ka, kl, kc, kf⟩ (L.take j)).1.length ≤ L.length + 1 := Nat.le_trans hlen (by simp; omega)
        clear hb hsl hlen
        obtain ⟨x0, x1, x2⟩ := HX.out wr HBr.out
        generalize hst : addL ⟨ks, ka, kl, kc, kf⟩ (L.take j) = st at *
        obtain ⟨A, pl⟩ := st
        simp only at HSl hlen2
        have HS0 : Hid (addL ⟨ks, ka, kl, kc, kf⟩ (L.take j) = (A, pl)) := hst
        clear hst
        by_cases hlt : j < L.length
        · obtain ⟨g, rfl, hgl, hcell⟩ := HOp.out (by omega)
          obtain ⟨⟨ys, ya, yl, yc, yf⟩, hy⟩ : ∃ y, L[j]? = some y := ⟨_, List.getElem?_eq_getElem hlt⟩
          have d0 := (HBr0.out.cell (p := ⟨g, j * 3 + 0, none⟩) hgl).trans (hcell j _ hy 0 _ rfl)
          have d1 := (HBr0.out.cell (p := ⟨g, j * 3 + 1, none⟩) hgl).trans (hcell j _ hy 1 _ rfl)
          have d2 := (HBr0.out.cell (p := ⟨g, j * 3 + 2, none⟩) hgl).trans (hcell j _ hy 2 _ rfl)
          simp only [Nat.add_zero] at d0
          have HA : Hid (L[j]? = some ⟨ys, ya, yl, yc, yf⟩ ∧ j < L.length) := ⟨hy, hlt⟩
          have HD : Hid (∀ wq, Below ws.heap.size ws wq → wq.cell? ⟨g, j * 3, none⟩ = some (.int .u64 ys) ∧ wq.cell? ⟨g, j * 3 + 1, none⟩ = some (.slice ya yl yc) ∧ wq.cell? ⟨g, j * 3 + 2, none⟩ = some (.int .u64 yf)) := fun wq hq => by
            have h0 : Below w.heap.size w wq := HB0.out.trans (hq.mono HB0.out.size)
            exact ⟨(h0.cell (p := ⟨g, j * 3 + 0, none⟩) hgl).trans (hcell j _ hy 0 _ rfl), (h0.cell (p := ⟨g, j * 3 + 1, none⟩) hgl).trans (hcell j _ hy 1 _ rfl), (h0.cell (p := ⟨g, j * 3 + 2, none⟩) hgl).trans (hcell j _ hy 2 _ rfl)⟩
          have hstep := HSt.out j _ hy
          rw [HS0.out] at hstep
          have i1 : (j : Int) < (L.length : Int) := by omega
          clear hcell hy hlt
          by_cases hc : pl = false ∧ ks < ys
          · obtain ⟨rfl, hks⟩ := hc
            have hkb : decide (ks < ys) = true := decide_eq_true hks
            have HStp : Hid (addL ⟨ks, ka, kl, kc, kf⟩ (L.take (j + 1)) = (A ++ [⟨ks, ka, kl, kc, kf⟩] ++ [⟨ys, ya, yl, yc, yf⟩], true)) := by
              show _ = _
              rw [hstep]
              simp [stepA, hks]
            clear hstep hks
            go_wp2_with fail
            go_quiet (fail)
            generalize hq : wr.drewN _ = wq
            have hbq : Below wr.heap.size wr wq := by subst hq; exact below_drewN (Below.refl _ _) _
            have hsq : wr.heap.size ≤ wq.heap.size := hbq.size
            have HBq : Hid (Below ws.heap.size ws wq) := HBs.out.trans (hbq.mono hws)
            have HSq : Hid (Sl EK 63 wq ws.heap.size u6 A) := HSl.out.later hbq
            clear hq hbq x0 x1 x2 d0 d1 d2
            obtain ⟨x0, x1, x2⟩ := HX.out wq (HB.out.trans (HBq.out.mono hwbr))
            obtain ⟨v5, w5, hrun, hS5, hg5, _⟩ := HSq.out.push (T := 68) Yba.underlying68 info63 rfl (by decide) (by omega) (by omega) (by decide) ⟨ks, ka, kl, kc, kf⟩ #[.int .u64 ks, .slice ka kl kc, .int .u64 kf] rfl
            have HB5 : Hid (Below ws.heap.size ws w5) := HBq.out.trans (grown_below hg5 (fun j hj => (HSq.out.lt hj).1) (by omega))
            have HS5 : Hid (Sl EK 63 w5 ws.heap.size v5 (A ++ [⟨ks, ka, kl, kc, kf⟩])) := hS5
            have hs5 : wq.heap.size ≤ w5.heap.size := hg5.size
            obtain ⟨d0, d1, d2⟩ := HD.out w5 HB5.out
            obtain ⟨v6, w6, hrun6, hS6, hg6, _⟩ := HS5.out.push (T := 68) Yba.underlying68 info63 rfl (by decide) (by omega) (by simp; omega) (by decide) ⟨ys, ya, yl, yc, yf⟩ #[.int .u64 ys, .slice ya yl yc, .int .u64 yf] rfl
            have HB6 : Hid (Below ws.heap.size ws w6) := HB5.out.trans (grown_below hg6 (fun j hj => (HS5.out.lt hj).1) (by omega))
            have HS6 : Hid (Sl EK 63 w6 ws.heap.size v6 (A ++ [⟨ks, ka, kl, kc, kf⟩] ++ [⟨ys, ya, yl, yc, yf⟩])) := hS6
            clear hS5 hg5 hS6 hg6
            go_wp2_with (at_builtin; first | refine wpList_append_run 68 hrun rfl _ _ rfl rfl rfl rfl ?_ | refine wpList_append_run 68 hrun6 rfl _ _ rfl rfl rfl rfl ?_)
            go_roundw
            case rel => exact ⟨j + 1, by have := HA.out.2; omega, by go_num, by rw [HStp.out], by rw [HStp.out]; exact HS6.out, HB6.out⟩
            case measure => have := HA.out.2; simp [intOf]; omega
          · have HStp : Hid (addL ⟨ks, ka, kl, kc, kf⟩ (L.take (j + 1)) = (A ++ [⟨ys, ya, yl, yc, yf⟩], pl)) := by
              show _ = _
              rw [hstep]
              cases pl with
              | true => simp [stepA]
              | false =>
                have : ¬ ks < ys := fun h => hc ⟨rfl, h⟩
                simp [stepA, this]
            have key : ∀ wq, Below wr.heap.size wr wq → ∃ v6 w6, (Builtin.append_ #[68, 68] 68 #[u6, .slice (some ⟨wq.heap.size, 0, none⟩) 1 1]).run Yba.prog (wq.alloc (.cells #[.int .u64 ys, .slice ya yl yc, .int .u64 yf] 63)) = .ok v6 w6 ∧ Sl EK 63 w6 ws.heap.size v6 (A ++ [⟨ys, ya, yl, yc, yf⟩]) ∧ Below ws.heap.size ws w6 := fun wq hbq => by
              have hsq : wr.heap.size ≤ wq.heap.size := hbq.size
              obtain ⟨v6, w6, hrun6, hS6, hg6, _⟩ := (HSl.out.later hbq).push (T := 68) Yba.underlying68 info63 rfl (by decide) (by omega) (by omega) (by decide) ⟨ys, ya, yl, yc, yf⟩ #[.int .u64 ys, .slice ya yl yc, .int .u64 yf] rfl
              exact ⟨v6, w6, hrun6, hS6, (HBs.out.trans (hbq.mono hws)).trans (grown_below hg6 (fun j hj => (HSl.out.lt hj).1) (by omega))⟩
            have HKey := show Hid _ from key
            have HC : Hid (¬ (pl = false ∧ ks < ys)) := hc
            clear key hc hstep
            cases pl with
            | true =>
              go_wp2_with fail
              go_quiet (fail)
              generalize hq : wr.drewN _ = wq
              have hbq : Below wr.heap.size wr wq := by subst hq; exact below_drewN (Below.refl _ _) _
              obtain ⟨v6, w6, hrun6, hS6, hB6⟩ := HKey.out wq hbq
              have HS6 : Hid (Sl EK 63 w6 ws.heap.size v6 (A ++ [⟨ys, ya, yl, yc, yf⟩]) ∧ Below ws.heap.size ws w6) := ⟨hS6, hB6⟩
              have d0 : wq.cell? ⟨g, j * 3, none⟩ = some (.int .u64 ys) := by subst hq; exact d0
              have d1 : wq.cell? ⟨g, j * 3 + 1, none⟩ = some (.slice ya yl yc) := by subst hq; exact d1
              have d2 : wq.cell? ⟨g, j * 3 + 2, none⟩ = some (.int .u64 yf) := by subst hq; exact d2
              clear hq hbq hS6 hB6
              go_wp2_with (at_builtin; refine wpList_append_run 68 hrun6 rfl _ _ rfl rfl rfl rfl ?_)
              go_roundw
              case rel => exact ⟨j + 1, by have := HA.out.2; omega, by go_num, by rw [HStp.out], by rw [HStp.out]; exact HS6.out.1, HS6.out.2⟩
              case measure => have := HA.out.2; simp [intOf]; omega
            | false =>
              have hkb : decide (ks < ys) = false := decide_eq_false (fun h => HC.out ⟨rfl, h⟩)
              go_wp2_with fail
              go_quiet (fail)
              generalize hq : wr.drewN _ = wq
              have hbq : Below wr.heap.size wr wq := by subst hq; exact below_drewN (Below.refl _ _) _
              obtain ⟨v6, w6, hrun6, hS6, hB6⟩ := HKey.out wq hbq
              have HS6 : Hid (Sl EK 63 w6 ws.heap.size v6 (A ++ [⟨ys, ya, yl, yc, yf⟩]) ∧ Below ws.heap.size ws w6) := ⟨hS6, hB6⟩
              have d0 : wq.cell? ⟨g, j * 3, none⟩ = some (.int .u64 ys) := by subst hq; exact d0
              have d1 : wq.cell? ⟨g, j * 3 + 1, none⟩ = some (.slice ya yl yc) := by subst hq; exact d1
              have d2 : wq.cell? ⟨g, j * 3 + 2, none⟩ = some (.int .u64 yf) := by subst hq; exact d2
              clear hq hbq hS6 hB6
              go_wp2_with (at_builtin; refine wpList_append_run 68 hrun6 rfl _ _ rfl rfl rfl rfl ?_)
              go_roundw
              case rel => exact ⟨j + 1, by have := HA.out.2; omega, by go_num, by rw [HStp.out], by rw [HStp.out]; exact HS6.out.1, HS6.out.2⟩
              case measure => have := HA.out.2; simp [intOf]; omega
        · have hjn : j = L.length := by omega
          subst hjn
          clear hlt
          have hfin := addL_false ⟨ks, ka, kl, kc, kf⟩ L [] HNo.out
          have hS := HS0.out
          rw [List.take_length] at hS
          unfold addL at hS
          rw [hS] at hfin
          simp only [List.nil_append] at hfin
          have HFin : Hid ((if pl = true then A else A ++ [⟨ks, ka, kl, kc, kf⟩]) = ins L ⟨ks, ka, kl, kc, kf⟩) := hfin
          clear hfin hS
          cases pl with
          | true =>
            go_wp2_with fail
            go_ret
            refine ⟨_, rfl, ?_, HBr0.out⟩
            have hf : A = ins L ⟨ks, ka, kl, kc, kf⟩ := by simpa using HFin.out
            rw [← hf]
            exact HSl.out.mono (by have := HB0.out.size; omega)
          | false =>
            obtain ⟨v', w', hrun, hS, hg, _⟩ := HSl.out.push (T := 68) Yba.underlying68 info63 rfl (by decide) hws (by omega) (by decide) ⟨ks, ka, kl, kc, kf⟩ #[.int .u64 ks, .slice ka kl kc, .int .u64 kf] rfl
            have HS' : Hid (Sl EK 63 w' ws.heap.size v' (A ++ [⟨ks, ka, kl, kc, kf⟩])) := hS
            have HB' : Hid (Below w.heap.size w w') := HBr0.out.trans ((grown_below hg (fun j hj => (HSl.out.lt hj).1) hws).mono (by have := HB0.out.size; omega))
            clear hS hg
            go_wp2_with (at_builtin; refine wpList_append_run 68 hrun rfl _ _ rfl rfl rfl rfl ?_)
            go_ret
            refine ⟨_, rfl, ?_, HB'.out⟩
            have hf : A ++ [⟨ks, ka, kl, kc, kf⟩] = ins L ⟨ks, ka, kl, kc, kf⟩ := by simpa using HFin.out
            rw [← hf]
            exact HS'.out.mono (by have := HB0.out.size; omega)
end Go.Proofs.Ybulkdkqw.lawS5586AWhole
