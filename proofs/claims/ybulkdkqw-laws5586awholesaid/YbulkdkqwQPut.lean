import Derived.Test.YbulkdkqwQEq
namespace Go.Proofs.Ybulkdkqw.lawS5586AWhole
open Go.ChangeShapes Go.WideShapes Go.ChangeAt Go.RowKit

/-- A slice literal of one element. -/
theorem Sl.lit1 {α : Type} {E : Enc α} {t : TypeId} (w : World) (x : α) (ca : Array Value) (hca : ca.toList = E.cs x) {B : Nat} (hB : B ≤ w.heap.size) : Sl E t (w.alloc (.cells ca t)) B (.slice (some ⟨w.heap.size, 0, none⟩) 1 1) [x] := by
  have hsz : ca.size = E.s := by rw [← Array.length_toList, hca, E.len]
  refine ⟨by rw [flat_one, E.len]; simp, .inr ⟨w.heap.size, 1, ca, rfl, hB, Deep.blk_alloc_new _ _, by simp, by simp [maxLen], by omega, ?_⟩⟩
  rw [flat_one, hca]
  simp [List.take_of_length_le, E.len]

/-- The model's series: none of their items' rows is written once it lies. -/
def Ser (w : World) (B : Nat) (v : Value) (S : List SR) : Prop := Sl E70 70 w B v S ∧ ∀ r ∈ S, Sl EK 63 w B (.slice r.ao r.len r.cap) r.items ∧ Rising r.items
def keyS (r : SR) : Int × Int × List KM := (r.owner, r.name, r.items)
def atT (o n : Int) (t : Int × Int × List KM) : Bool := (t.1 == o) && (t.2.1 == n)
def putT (T : List (Int × Int × List KM)) (o n : Int) (k : KM) : List (Int × Int × List KM) := match T.findIdx? (atT o n) with
  | some i => T.modify i (fun t => (t.1, t.2.1, ins t.2.2 k))
  | none => T ++ [(o, n, [k])]

theorem findT (S : List SR) (o n : Int) : (S.map keyS).findIdx? (atT o n) = S.findIdx? (atS o n) := by
  rw [List.findIdx?_map]
  rfl

theorem flat_set70 : ∀ (S : List SR) (i : Nat) (r : SR) (ao : Option Addr) (len cap : Nat) (it : List KM), S[i]? = some r → E70.flat (S.set i ⟨r.owner, r.name, ao, len, cap, it⟩) = (E70.flat S).set (i * 3 + 2) (.slice ao len cap)
  | [], i, r, _, _, _, _, h => by simp at h
  | y :: S, 0, r, ao, len, cap, it, h => by
    simp at h; subst h
    simp [Enc.flat, E70]
  | y :: S, i + 1, r, ao, len, cap, it, h => by
    simp at h
    have ih := flat_set70 S i r ao len cap it h
    have e1 : E70.flat (y :: S) = E70.cs y ++ E70.flat S := rfl
    have e2 : E70.flat ((y :: S).set (i + 1) ⟨r.owner, r.name, ao, len, cap, it⟩) = E70.cs y ++ E70.flat (S.set i ⟨r.owner, r.name, ao, len, cap, it⟩) := rfl
    rw [e1, e2, ih, List.set_append_right _ _ (by rw [E70.len]; show 3 ≤ _; omega)]
    congr 2
    rw [E70.len]
    show i * 3 + 2 = (i + 1) * 3 + 2 - 3
    omega

/-- One series' items turned. -/
theorem Ser.turn {w : World} {B : Nat} {n cap g : Nat} {S : List SR} {i : Nat} {r : SR} {it : List KM} {ia : Option Addr} {il ic : Nat} (h : Ser w B (.slice (some ⟨g, 0, none⟩) n cap) S) (hi : S[i]? = some r) (hs : Sl EK 63 w B (.slice ia il ic) it) (hr : Rising it) :
    Ser (w.setCell ⟨g, i * 3 + 2, none⟩ (.slice ia il ic)) B (.slice (some ⟨g, 0, none⟩) n cap) (S.set i ⟨r.owner, r.name, ia, il, ic, it⟩) := by
  obtain ⟨h1, h2⟩ := h
  have hgt : ∃ cur, w.heap[g]? = some (.cells cur 70 (0, 0)) := h1.typed rfl
  obtain ⟨cur, hcur⟩ := hgt
  have hk : ∀ {v : Value} {L : List KM}, Sl EK 63 w B v L → Sl EK 63 (w.setCell ⟨g, i * 3 + 2, none⟩ (.slice ia il ic)) B v L := fun hv => hv.of_block (fun b hb => by
    obtain ⟨c, hc⟩ := hv.typed hb
    exact Deep.blk_setCell_other _ _ _ _ (fun e => cells_ne2 (t' := 70) hc (by decide) cur (by rw [e]; exact hcur)))
  refine ⟨?_, fun x hx => ?_⟩
  · have hn : n = S.length := by obtain ⟨_, _, e, _⟩ := h1.open; cases e; rfl
    subst hn
    have := owns_setCell (k := i * 3 + 2) h1 (.slice ia il ic)
    unfold Sl
    rw [flat_set70 S i r ia il ic it hi, List.length_set]
    exact this
  · obtain ⟨j, hj, rfl⟩ := List.getElem_of_mem hx
    rw [List.getElem_set]
    split
    · exact ⟨hk hs, hr⟩
    · have := h2 _ (List.getElem_mem (by simpa using hj))
      exact ⟨hk this.1, this.2⟩

set_option maxRecDepth 1000000 in
set_option maxHeartbeats 4000000 in
/-- The model's put. -/
theorem put_any (w : World) (B : Nat) (v : Value) (S : List SR) (o n : Int) (k : KM) (h : Ser w B v S) (hB : B ≤ w.heap.size) (hl : S.length ≤ 5000) (hil : ∀ r ∈ S, r.items.length ≤ 5000) :
    Calls Yba.prog 9 #[v, .int .i64 o, .int .u64 n, k.val] w fun e w' => ∃ v' S', e = .returned v' ∧ Ser w' B v' S' ∧ S'.map keyS = putT (S.map keyS) o n k ∧ Below B w w' ∧ TOnly 70 w w' := by
  have HS : Hid (Ser w B v S) := h
  obtain ⟨ao, cap, rfl, hop⟩ := h.1.open
  have HFd : Hid (∀ wq, Below w.heap.size w wq → Calls Yba.prog 12 #[.slice ao S.length cap, .int .i64 o, .int .u64 n] wq fun e w' => e = .returned (idxV (S.findIdx? (atS o n))) ∧ w' = wq) := fun wq hq => find_any S o n ((In.of_sl h.1).later hq) hl
  clear h
  cases hf : S.findIdx? (atS o n) with
  | none =>
    rw [hf] at HFd
    have HT : Hid (putT (S.map keyS) o n k = S.map keyS ++ [(o, n, [k])]) := by show _ = _; unfold putT; rw [findT, hf]
    obtain ⟨ks, ka, kl, kc, kf⟩ := k
    simp only [KM.val]
    simp only [idxV] at HFd
    clear hop hf
    go_enter Yba.func9, Yba.ntmps9
    go_wp2_with fail
    generalize hwb : World.alloc _ _ = wb
    have hbb : Below w.heap.size w wb := by subst hwb; exact nb (Below.refl _ _) (Nat.le_refl _) _
    have hsz : wb.heap.size = w.heap.size + 1 := by subst hwb; simp
    have x0 : wb.cell? ⟨w.heap.size, 0, none⟩ = some (.int .u64 ks) := by subst hwb; simp [go_sem]
    have x1 : wb.cell? ⟨w.heap.size, 1, none⟩ = some (.slice ka kl kc) := by subst hwb; simp [go_sem]
    have x2 : wb.cell? ⟨w.heap.size, 2, none⟩ = some (.int .u64 kf) := by subst hwb; simp [go_sem]
    clear hwb
    refine (HFd.out wb hbb).mono ?_
    rintro e w1 ⟨rfl, rfl⟩
    have hl1 := Sl.lit1 (E := EK) (t := 63) w1 ⟨ks, ka, kl, kc, kf⟩ #[.int .u64 ks, .slice ka kl kc, .int .u64 kf] rfl (B := B) (by omega)
    have hb1 : Below w1.heap.size w1 (w1.alloc (.cells #[.int .u64 ks, .slice ka kl kc, .int .u64 kf] 63)) := nb (Below.refl _ _) (Nat.le_refl _) _
    have hb2 : Below w.heap.size w (w1.alloc (.cells #[.int .u64 ks, .slice ka kl kc, .int .u64 kf] 63)) := hbb.trans (hb1.mono (by omega))
    obtain ⟨v', w', hrun, hS, hg, _⟩ := (HS.out.1.later hb2).push (T := 59) Yba.underlying59 info70 rfl (by decide) (by simp; omega) (by omega) (by decide) ⟨o, n, some ⟨w1.heap.size, 0, none⟩, 1, 1, [⟨ks, ka, kl, kc, kf⟩]⟩ #[.int .i64 o, .int .u64 n, .slice (some ⟨w1.heap.size, 0, none⟩) 1 1] rfl
    have ht : TOnly 70 (w1.alloc (.cells #[.int .u64 ks, .slice ka kl kc, .int .u64 kf] 63)) w' := TOnly.of_row hg (fun g hg' => (HS.out.1.later hb2).typed hg')
    have HF : Hid (∃ S', Ser w' B v' S' ∧ S'.map keyS = putT (S.map keyS) o n ⟨ks, ka, kl, kc, kf⟩ ∧ Below B w w' ∧ TOnly 70 w w') := by
      refine ⟨_, ⟨hS, fun r hr => ?_⟩, by rw [HT.out]; simp [keyS], (hb2.mono hB).trans (grown_below hg (fun j hj => (HS.out.1.lt hj).1) (by simp; omega)), ⟨Nat.le_trans hb2.size ht.size, fun b hb hne => (ht.block b (Nat.lt_of_lt_of_le hb hb2.size) (fun cur => by rw [hb2.block b hb]; exact hne cur)).trans (hb2.block b hb)⟩⟩
      rcases List.mem_append.1 hr with hr | hr
      · have := HS.out.2 r hr
        exact ⟨(this.1.later hb2).tonly (by decide) ht, this.2⟩
      · simp at hr
        subst hr
        exact ⟨hl1.tonly (by decide) ht, by simp [Rising]⟩
    clear hl1 hb1 hb2 hS hg ht
    have hsa : (w1.alloc (.cells #[.int .u64 ks, .slice ka kl kc, .int .u64 kf] 63)).heap.size = w1.heap.size + 1 := by simp
    rw [hsa, hsz] at hrun
    clear hsa
    go_wp2_with (at_builtin; refine wpList_append_run 59 hrun rfl _ _ rfl rfl rfl rfl ?_)
    go_ret
    obtain ⟨S', hf⟩ := HF.out
    exact ⟨_, S', rfl, hf⟩
  | some i =>
    rw [hf] at HFd
    have hf0 := hf
    rw [List.findIdx?_eq_some_iff_getElem] at hf
    obtain ⟨hi, _, _⟩ := hf
    obtain ⟨r, hr⟩ : ∃ r, S[i]? = some r := ⟨_, List.getElem?_eq_getElem hi⟩
    have hrm : r ∈ S := List.mem_of_getElem? hr
    have HT : Hid (∀ ia il ic, (S.set i ⟨r.owner, r.name, ia, il, ic, ins r.items k⟩).map keyS = putT (S.map keyS) o n k) := fun ia il ic => by
      unfold putT
      rw [findT, hf0]
      simp only
      apply List.ext_getElem?
      intro j
      rw [List.getElem?_map, List.getElem?_set, List.getElem?_modify, List.getElem?_map]
      by_cases e : i = j
      · subst e
        have hr' : S[i] = r := by rw [List.getElem?_eq_getElem hi] at hr; injection hr
        simp [hi, keyS, hr']
      · simp [e]
    obtain ⟨g, rfl, hBg, hgl, _, hfz, hcell⟩ := hop (by omega)
    have HR : Hid (S[i]? = some r) := hr
    have hrs := HS.out.2 r hrm
    have HAdd : Hid (∀ wq, Below w.heap.size w wq → Calls Yba.prog 32 #[.slice r.ao r.len r.cap, k.val] wq fun e w' => ∃ v', e = .returned v' ∧ Sl EK 63 w' B v' (ins r.items k) ∧ Below wq.heap.size wq w') := fun wq hq => add_any r.items k B _ wq (hrs.1.later hq) (Nat.le_trans hB hq.size) hrs.2 (hil r hrm)
    have d2 := hcell i r hr 2 _ rfl
    obtain ⟨ro, rn, ra, rl, rc, ri⟩ := r
    obtain ⟨ks, ka, kl, kc, kf⟩ := k
    simp only [KM.val, E70] at *
    simp only [idxV] at HFd
    have HC : Hid (∀ wq, Below w.heap.size w wq → wq.cell? ⟨g, i * 3 + 2, none⟩ = some (.slice ra rl rc) ∧ wq.frozen? ⟨g, i * 3 + 2, none⟩ = false) := fun wq hq => ⟨(hq.cell (p := ⟨g, i * 3 + 2, none⟩) hgl).trans d2, by
      have := hfz (i * 3 + 2)
      simpa [World.frozen?, hq.block g hgl] using this⟩
    have i1 : (i : Int) < (S.length : Int) := by omega
    clear hop hf0 hcell d2 hfz hrs hr
    go_enter Yba.func9, Yba.ntmps9
    go_wp2_with fail
    generalize hwb : World.alloc _ _ = wb
    have hbb : Below w.heap.size w wb := by subst hwb; exact nb (Below.refl _ _) (Nat.le_refl _) _
    have hsz : wb.heap.size = w.heap.size + 1 := by subst hwb; simp
    have x0 : wb.cell? ⟨w.heap.size, 0, none⟩ = some (.int .u64 ks) := by subst hwb; simp [go_sem]
    have x1 : wb.cell? ⟨w.heap.size, 1, none⟩ = some (.slice ka kl kc) := by subst hwb; simp [go_sem]
    have x2 : wb.cell? ⟨w.heap.size, 2, none⟩ = some (.int .u64 kf) := by subst hwb; simp [go_sem]
    clear hwb
    have HBb : Hid (Below w.heap.size w wb) := hbb
    refine (HFd.out wb hbb).mono ?_
    rintro e w1 ⟨rfl, rfl⟩
    obtain ⟨d2, f2⟩ := HC.out w1 hbb
    clear hbb
    have hib : decide ((i : Int) ≥ 0) = true := by simp
    go_wp2_with fail
    go_region_with (
      (go_at_call 32
       refine (HAdd.out w1.drew (HBb.out.trans (below_drewN (Below.refl _ _) 1))).mono ?_
       rintro e w2 ⟨v2, rfl, hs2, hb2⟩
       have HS2 : Hid (Sl EK 63 w2 B v2 (ins ri ⟨ks, ka, kl, kc, kf⟩)) := hs2
       have HB2 : Hid (Below w.heap.size w w2) := HBb.out.trans (((below_drewN (Below.refl _ _) 1 : Below w1.heap.size w1 w1.drew).trans hb2).mono (by omega))
       obtain ⟨y2, g2⟩ := HC.out w2 HB2.out
       obtain ⟨va, vl, vc, hv2⟩ : ∃ va vl vc, v2 = .slice va vl vc := by obtain ⟨x, y, h, _⟩ := hs2.open; exact ⟨_, _, _, h⟩
       subst hv2
       clear hs2 hb2))
    all_goals
      go_wp2_with fail
      go_ret
      refine ⟨_, S.set i ⟨ro, rn, va, vl, vc, ins ri ⟨ks, ka, kl, kc, kf⟩⟩, rfl, ?_, HT.out va vl vc, ?_, ?_⟩
      · exact Ser.turn (r := ⟨ro, rn, ra, rl, rc, ri⟩) ⟨HS.out.1.later HB2.out, fun x hx => ⟨((HS.out.2 x hx).1).later HB2.out, (HS.out.2 x hx).2⟩⟩ HR.out HS2.out (ins_rising _ _ (HS.out.2 _ hrm).2)
      · exact (HB2.out.mono hB).setCell (by show B ≤ g; exact hBg) _
      · refine ⟨by simpa using HB2.out.size, fun b hb hne => ?_⟩
        obtain ⟨cur, hcur⟩ := HS.out.1.typed (g := g) rfl
        exact (Deep.blk_setCell_other _ _ _ _ (fun e => hne cur (by rw [e]; exact hcur))).trans (HB2.out.block b hb)
end Go.Proofs.Ybulkdkqw.lawS5586AWhole
