import Derived.Test.YbulkdkqwQSearch
namespace Go.Proofs.Ybulkdkqw.lawS5586AWhole
open Go.ChangeShapes Go.WideShapes Go.ChangeAt Go.RowKit

/-- Strictly rising in seq. -/
def Rising (L : List KM) : Prop := L.Pairwise (fun a b => a.seq < b.seq)

/-- A message put at its place, if its seq is not there. -/
def ins : List KM → KM → List KM
  | [], k => [k]
  | x :: L, k => if k.seq = x.seq then x :: L else if k.seq < x.seq then k :: x :: L else x :: ins L k

theorem ins_at : ∀ (L : List KM) (k : KM) (i : Nat), i ≤ L.length → (∀ (j : Nat) (x : KM), j < i → L[j]? = some x → x.seq < k.seq) → (∀ x, L[i]? = some x → k.seq < x.seq) → ins L k = L.take i ++ k :: L.drop i
  | [], k, i, hi, _, _ => by
    have : i = 0 := by simpa using hi
    subst this
    rfl
  | x :: L, k, 0, _, _, h2 => by
    have := h2 x rfl
    unfold ins
    rw [if_neg (by omega), if_pos this]
    rfl
  | x :: L, k, i + 1, hi, h1, h2 => by
    have hx := h1 0 x (by omega) rfl
    unfold ins
    rw [if_neg (by omega), if_neg (by omega), ins_at L k i (by simpa using hi) (fun j y hj hy => h1 (j + 1) y (by omega) (by simpa using hy)) (fun y hy => h2 y (by simpa using hy))]
    rfl

theorem ins_same : ∀ (L : List KM) (k : KM) (i : Nat) (x : KM), Rising L → L[i]? = some x → x.seq = k.seq → ins L k = L
  | [], _, _, _, _, h, _ => by simp at h
  | y :: L, k, 0, x, _, h, e => by
    simp at h; subst h
    unfold ins
    rw [if_pos e.symm]
  | y :: L, k, i + 1, x, hr, h, e => by
    have hr' := List.pairwise_cons.1 hr
    have hm := List.mem_of_getElem? (show L[i]? = some x by simpa using h)
    have := hr'.1 x hm
    unfold ins
    rw [if_neg (by omega), if_neg (by omega), ins_same L k i x hr'.2 (by simpa using h) e]

theorem ins_mem : ∀ (L : List KM) (k x : KM), x ∈ ins L k → x ∈ L ∨ x = k
  | [], k, x, h => by simp [ins] at h; exact .inr h
  | y :: L, k, x, h => by
    unfold ins at h
    split at h
    · exact .inl h
    · split at h
      · rcases List.mem_cons.1 h with h | h
        · exact .inr h
        · exact .inl h
      · rcases List.mem_cons.1 h with h | h
        · exact .inl (by simp [h])
        · rcases ins_mem L k x h with h | h
          · exact .inl (by simp [h])
          · exact .inr h

theorem ins_rising : ∀ (L : List KM) (k : KM), Rising L → Rising (ins L k)
  | [], k, _ => by simp [ins, Rising]
  | y :: L, k, hr => by
    have hr' := List.pairwise_cons.1 hr
    unfold ins
    split
    · exact hr
    · next hne =>
      split
      · next hlt =>
        refine List.pairwise_cons.2 ⟨fun z hz => ?_, hr⟩
        rcases List.mem_cons.1 hz with rfl | hz
        · exact hlt
        · have := hr'.1 z hz; omega
      · next hge =>
        refine List.pairwise_cons.2 ⟨fun z hz => ?_, ins_rising L k hr'.2⟩
        rcases ins_mem L k z hz with h | rfl
        · exact hr'.1 z h
        · omega

theorem ins_len (L : List KM) (k : KM) : (ins L k).length ≤ L.length + 1 := by
  induction L with
  | nil => simp [ins]
  | cons y L ih =>
    unfold ins
    split
    · simp
    · split
      · simp
      · simp; omega

theorem ins_ne_nil (L : List KM) (k : KM) : ins L k ≠ [] := by
  cases L with
  | nil => simp [ins]
  | cons y L =>
    unfold ins
    split
    · simp
    · split <;> simp

theorem rising_get {L : List KM} (h : Rising L) {i j : Nat} {x y : KM} (hi : L[i]? = some x) (hj : L[j]? = some y) (hij : i < j) : x.seq < y.seq := by
  have h1 := lt_of_get hi
  have h2 := lt_of_get hj
  rw [List.getElem?_eq_getElem h1] at hi
  rw [List.getElem?_eq_getElem h2] at hj
  cases hi; cases hj
  exact (List.pairwise_iff_getElem.1 h) i j h1 h2 hij

/-- What keep's closure answers. -/
def geK (L : List KM) (s : Int) (j : Nat) : Bool := match L[j]? with
  | some y => decide (s ≤ y.seq)
  | none => true

/-- keep$1. -/
theorem keepFn_any (L : List KM) (x : KM) (B : Nat) (v : Value) (bs bk : Nat) (j : Nat) (w : World) (hL : Sl EK 63 w B v L) (hj : j < L.length) (c0 : w.cell? ⟨bs, 0, none⟩ = some v) (c1 : w.cell? ⟨bk, 0, none⟩ = some (.int .u64 x.seq)) :
    Calls Yba.prog 44 #[.int .i64 (j : Int), .pointer (some ⟨bs, 0, none⟩), .pointer (some ⟨bk, 0, none⟩)] w fun e w' => e = .returned (.bool (geK L x.seq j)) ∧ Below w.heap.size w w' := by
  obtain ⟨ao, cap, rfl, hop⟩ := hL.open
  obtain ⟨g, rfl, _, _, _, _, hcell⟩ := hop (by omega)
  obtain ⟨y, hy⟩ : ∃ y, L[j]? = some y := ⟨_, List.getElem?_eq_getElem hj⟩
  have d0 := hcell j y hy 0 _ rfl
  simp [EK] at d0
  have HY : Hid (L[j]? = some y) := hy
  have i1 : (j : Int) < (L.length : Int) := by omega
  clear hL hop hcell hy
  go_enter Yba.func44, Yba.ntmps44
  go_wp2_with fail
  go_quiet (fail)
  go_wp2_with fail
  go_ret
  refine ⟨?_, below_drewN (Below.refl _ _) _⟩
  unfold geK
  rw [HY.out]
  rfl

set_option maxRecDepth 100000 in
set_option maxHeartbeats 1000000 in
/-- keep, nothing kept yet. -/
theorem keep_nil (x : KM) (B : Nat) (v : Value) (w : World) (hL : Sl EK 63 w B v []) (hB : B ≤ w.heap.size) :
    Calls Yba.prog 30 #[v, x.val] w fun e w' => InsP EK 63 w B v [x] e w' := by
  have HL : Hid (Sl EK 63 w B v []) := hL
  obtain ⟨ao, cap, hv, _⟩ := hL.open
  simp only [List.length_nil] at hv
  subst hv
  clear hL
  simp only [KM.val]
  go_enter Yba.func30, Yba.ntmps30
  refine wp_seq_k ?_
  intro K hK
  have HK := show Hid _ from hK
  clear hK
  go_wp2_with fail
  refine HK.out _ _ ?_
  clear HK K
  generalize hwb : World.alloc _ _ = wb
  have hbb : Below w.heap.size w wb := by subst hwb; exact nb (nb (Below.refl _ _) (Nat.le_refl _) _) (Nat.le_refl _) _
  have s0 : wb.cell? ⟨w.heap.size, 0, none⟩ = some (.slice ao 0 cap) := by subst hwb; simp [go_sem]
  have x0 : wb.cell? ⟨w.heap.size + 1, 0, none⟩ = some (.int .u64 x.seq) := by subst hwb; simp [go_sem]
  have x1 : wb.cell? ⟨w.heap.size + 1, 1, none⟩ = some (.slice x.ao x.len x.cap) := by subst hwb; simp [go_sem]
  have x2 : wb.cell? ⟨w.heap.size + 1, 2, none⟩ = some (.int .u64 x.frm) := by subst hwb; simp [go_sem]
  clear hwb
  have HB : Hid (Below w.heap.size w wb) := hbb
  clear hbb
  go_wp2_with fail
  go_quiet (fail)
  go_wp2_with fail
  generalize hwz : wb.drewN _ = wz
  have hbw : Below w.heap.size w wz := by subst hwz; exact below_drewN HB.out _
  clear hwz
  refine (insertK_any [] 0 x B _ wz (HL.out.later hbw) (Nat.le_trans hB hbw.size) (Nat.le_refl _) (by simp)).mono ?_
  rintro e w' ⟨v', rfl, hs, hg, hl⟩
  have H : Hid (Sl EK 63 w' B v' [x] ∧ w.grownBy w' (Value.slice ao 0 cap).ownBlock ∧ Loc w (.slice ao 0 cap) v') :=
    ⟨hs, ⟨hg.os.trans hbw.os, hg.tape.trans hbw.tape, hg.output.trans hbw.output, Nat.le_trans hbw.size hg.size, fun k hk hr => (hg.block k (by have := hbw.size; omega) hr).trans (hbw.block k hk)⟩, hl.imp id (fun ⟨g, h1, h2⟩ => ⟨g, h1, Nat.le_trans hbw.size h2⟩)⟩
  clear hs hg hl hbw
  go_wp2_with fail
  go_ret
  exact ⟨v', rfl, H.out⟩

set_option maxRecDepth 100000 in
set_option maxHeartbeats 1000000 in
/-- keep, something is kept. -/
theorem keep_pos (L : List KM) (x : KM) (B : Nat) (v : Value) (w : World) (hL : Sl EK 63 w B v L) (hB : B ≤ w.heap.size) (hr : Rising L) (hn : L.length < 100000) (hpos : 0 < L.length) :
    Calls Yba.prog 30 #[v, x.val] w fun e w' => InsP EK 63 w B v (ins L x) e w' := by
  have HL : Hid (Sl EK 63 w B v L) := hL
  have HRs : Hid (Rising L) := hr
  obtain ⟨ao, cap, hv, hop⟩ := hL.open
  obtain ⟨g, rfl, _, hgl, _, _, hcell0⟩ := hop hpos
  have HCe0 : Hid (∀ (i : Nat) (y : KM), L[i]? = some y → w.cell? ⟨g, i * 3, none⟩ = some (.int .u64 y.seq)) := fun i y hy => by
    have := hcell0 i y hy 0 _ rfl
    simp [EK] at this
    exact this
  clear hr hop hcell0
  subst hv
  simp only [KM.val]
  go_enter Yba.func30, Yba.ntmps30
  refine wp_seq_k ?_
  intro K hK
  have HK := show Hid _ from hK
  clear hK
  go_wp2_with fail
  refine HK.out _ _ ?_
  clear HK K
  generalize hwb : World.alloc _ _ = wb
  have hbb : Below w.heap.size w wb := by subst hwb; exact nb (nb (Below.refl _ _) (Nat.le_refl _) _) (Nat.le_refl _) _
  have hsz : wb.heap.size = w.heap.size + 1 + 1 := by subst hwb; simp
  have s0 : wb.cell? ⟨w.heap.size, 0, none⟩ = some (.slice (some ⟨g, 0, none⟩) L.length cap) := by subst hwb; simp [go_sem]
  have x0 : wb.cell? ⟨w.heap.size + 1, 0, none⟩ = some (.int .u64 x.seq) := by subst hwb; simp [go_sem]
  have x1 : wb.cell? ⟨w.heap.size + 1, 1, none⟩ = some (.slice x.ao x.len x.cap) := by subst hwb; simp [go_sem]
  have x2 : wb.cell? ⟨w.heap.size + 1, 2, none⟩ = some (.int .u64 x.frm) := by subst hwb; simp [go_sem]
  clear hwb
  have HB : Hid (Below w.heap.size w wb) := hbb
  have HLb : Hid (Sl EK 63 wb B (.slice (some ⟨g, 0, none⟩) L.length cap) L) := HL.out.later hbb
  clear hbb
  -- insertion at index i in a world wz that has grown
  have fin : ∀ (i : Nat) (wz : World), i ≤ L.length → Below wb.heap.size wb wz → ins L x = L.take i ++ x :: L.drop i →
      Calls Yba.prog 45 #[.slice (some ⟨g, 0, none⟩) L.length cap, .int .i64 i, x.val] wz fun e w' => InsP EK 63 w B (.slice (some ⟨g, 0, none⟩) L.length cap) (ins L x) e w' := by
    intro i wz hi hbz he
    have hbw : Below w.heap.size w wz := HB.out.trans (hbz.mono (by omega))
    refine (insertK_any L i x B _ wz (HL.out.later hbw) (Nat.le_trans hB hbw.size) hi hn).mono ?_
    rintro e w' ⟨v', rfl, hs, hg, hl⟩
    rw [he]
    refine ⟨v', rfl, hs, ⟨hg.os.trans hbw.os, hg.tape.trans hbw.tape, hg.output.trans hbw.output, Nat.le_trans hbw.size hg.size, fun k hk hr => (hg.block k (by have := hbw.size; omega) hr).trans (hbw.block k hk)⟩, hl.imp id (fun ⟨g, h1, h2⟩ => ⟨g, h1, Nat.le_trans hbw.size h2⟩)⟩
  have HFin : Hid (∀ (i : Nat) (wz : World), i ≤ L.length → Below wb.heap.size wb wz → ins L x = L.take i ++ x :: L.drop i →
      Calls Yba.prog 45 #[.slice (some ⟨g, 0, none⟩) L.length cap, .int .i64 i, .agg #[.int .u64 x.seq, .slice x.ao x.len x.cap, .int .u64 x.frm]] wz fun e w' => InsP EK 63 w B (.slice (some ⟨g, 0, none⟩) L.length cap) (ins L x) e w') := fin
  clear fin
  have HCe : Hid (∀ (i : Nat) (y : KM), L[i]? = some y → wb.cell? ⟨g, i * 3, none⟩ = some (.int .u64 y.seq)) := fun i y hy => (HB.out.cell hgl).trans (HCe0.out i y hy)
  clear HCe0
  obtain ⟨yl, hyl⟩ : ∃ y, L[L.length - 1]? = some y := ⟨_, List.getElem?_eq_getElem (by omega)⟩
  have dl := HCe.out _ _ hyl
  have HYl : Hid (L[L.length - 1]? = some yl) := hyl
  obtain ⟨n1, hn1⟩ : ∃ n1, L.length - 1 = n1 := ⟨_, rfl⟩
  rw [hn1] at dl
  have hn1I : (L.length : Int) - 1 = (n1 : Int) := by omega
  have hw1 : IntKind.i64.wrap ((L.length : Int) - 1) = (n1 : Int) := by rw [IntKind.wrap_i64]; omega
  have hn1l : (n1 : Int) < (L.length : Int) := by omega
  have hc0 : decide ((0 : Int) < (L.length : Int)) = true := by simp; omega
  clear hyl
  by_cases hge : x.seq ≤ yl.seq
  · have hge1 : decide (x.seq ≤ yl.seq) = true := by simpa using hge
    have HGe : Hid (x.seq ≤ yl.seq) := hge
    go_wp2_with fail
    go_quiet (fail)
    go_wp2_with fail
    generalize hwd : wb.drewN _ = wd
    have hbd : Below wb.heap.size wb wd := by subst hwd; exact below_drewN (Below.refl _ _) _
    have hcd : ∀ a, wd.cell? a = wb.cell? a := fun a => by subst hwd; rfl
    have hszd : wd.heap.size = wb.heap.size := by subst hwd; rfl
    clear hwd
    refine (search_any 44 (.pointer (some ⟨w.heap.size, 0, none⟩)) (.pointer (some ⟨w.heap.size + 1, 0, none⟩)) (geK L x.seq) L.length (by omega) wd enter44 (fun j k hjk hk hj => ?_) (fun j wq hj hbq => ?_)).mono ?_
    · unfold geK at hj ⊢
      obtain ⟨yj, hyj⟩ : ∃ y, L[j]? = some y := ⟨_, List.getElem?_eq_getElem (by omega)⟩
      obtain ⟨yk, hyk⟩ : ∃ y, L[k]? = some y := ⟨_, List.getElem?_eq_getElem hk⟩
      rw [hyj] at hj
      rw [hyk]
      simp at hj ⊢
      rcases Nat.lt_or_ge j k with h | h
      · have := rising_get HRs.out hyj hyk h; omega
      · have : j = k := by omega
        subst this
        rw [hyj] at hyk
        cases hyk
        exact hj
    · have hbqb : Below wb.heap.size wb wq := hbd.trans (hbq.mono (by omega))
      exact keepFn_any L x B _ w.heap.size (w.heap.size + 1) j wq (HLb.out.later hbqb) hj ((hbqb.cell (by simp; omega)).trans s0) ((hbqb.cell (by simp; omega)).trans x0)
    · rintro e w2 ⟨i, rfl, hin, hlo, hhi, hb2⟩
      have hb2b : Below wb.heap.size wb w2 := hbd.trans (hb2.mono (by omega))
      have HB2 : Hid (Below wb.heap.size wb w2) := hb2b
      have hilt : i < L.length := by
        rcases Nat.lt_or_ge i L.length with h | h
        · exact h
        · exfalso
          have h1 := hlo (L.length - 1) (by omega)
          unfold geK at h1
          rw [HYl.out] at h1
          simp at h1
          have := HGe.out
          omega
      obtain ⟨yi, hyi⟩ : ∃ y, L[i]? = some y := ⟨_, List.getElem?_eq_getElem hilt⟩
      have di := (hb2b.cell (p := ⟨g, i * 3, none⟩) (by have := HB.out.size; show g < wb.heap.size; omega)).trans (HCe.out i yi hyi)
      have s0' := (hb2b.cell (p := ⟨w.heap.size, 0, none⟩) (by simp; omega)).trans s0
      have x0' := (hb2b.cell (p := ⟨w.heap.size + 1, 0, none⟩) (by simp; omega)).trans x0
      have x1' := (hb2b.cell (p := ⟨w.heap.size + 1, 1, none⟩) (by simp; omega)).trans x1
      have x2' := (hb2b.cell (p := ⟨w.heap.size + 1, 2, none⟩) (by simp; omega)).trans x2
      have HYi : Hid (L[i]? = some yi) := hyi
      have HLo : Hid (∀ k, k < i → geK L x.seq k = false) := hlo
      have HHi : Hid (∀ k, i ≤ k → k < L.length → geK L x.seq k = true) := hhi
      have ii : (i : Int) < (L.length : Int) := by omega
      clear hb2b hyi hlo hhi hb2 s0 x0 x1 x2 dl hcd hbd
      by_cases heq : yi.seq = x.seq
      · have heq1 : (yi.seq == x.seq) = true := by simpa using heq
        have HEq : Hid (yi.seq = x.seq) := heq
        go_wp2_with fail
        go_quiet (fail)
        go_wp2_with fail
        go_ret
        have hbw : Below w.heap.size w w2 := HB.out.trans (HB2.out.mono (by omega))
        rw [ins_same L x i yi HRs.out HYi.out HEq.out]
        refine ⟨_, rfl, HL.out.later (below_drewN hbw _), ?_, .inl rfl⟩
        have hbw2 := below_drewN hbw ‹Nat›
        exact ⟨hbw.os, hbw.tape, hbw.output, hbw.size, fun k hk _ => hbw.block k hk⟩
      · have heq1 : (yi.seq == x.seq) = false := by simpa using heq
        have HEq : Hid (yi.seq ≠ x.seq) := heq
        go_wp2_with fail
        go_quiet (fail)
        go_wp2_with fail
        refine (HFin.out i _ hin (below_drewN HB2.out _) ?_).mono ?_
        · refine ins_at L x i hin (fun j y hj hy => ?_) (fun y hy => ?_)
          · have := HLo.out j hj
            unfold geK at this
            rw [hy] at this
            simp at this
            omega
          · have := HHi.out i (Nat.le_refl _) hilt
            unfold geK at this
            rw [hy] at this
            simp at this
            rw [HYi.out] at hy
            cases hy
            have := HEq.out
            omega
        · rintro e w' ⟨v', rfl, h⟩
          go_wp2_with fail
          go_ret
          exact ⟨v', rfl, h⟩
  · have hge1 : decide (x.seq ≤ yl.seq) = false := by simpa using hge
    have HGe : Hid (¬ x.seq ≤ yl.seq) := hge
    go_wp2_with fail
    go_quiet (fail)
    go_wp2_with fail
    refine (HFin.out L.length _ (Nat.le_refl _) (below_drewN (Below.refl _ _) _) ?_).mono ?_
    · refine ins_at L x L.length (Nat.le_refl _) (fun j y hj hy => ?_) (fun y hy => ?_)
      · have hgt := HGe.out
        rcases Nat.lt_or_ge j (L.length - 1) with h | h
        · have := rising_get HRs.out hy HYl.out h; omega
        · have hjj : j = L.length - 1 := by omega
          subst hjj
          rw [HYl.out] at hy
          cases hy
          omega
      · rw [List.getElem?_eq_none (Nat.le_refl _)] at hy; cases hy
    · rintro e w' ⟨v', rfl, h⟩
      go_wp2_with fail
      go_ret
      exact ⟨v', rfl, h⟩

/-- keep. -/
theorem keep_any (L : List KM) (x : KM) (B : Nat) (v : Value) (w : World) (hL : Sl EK 63 w B v L) (hB : B ≤ w.heap.size) (hr : Rising L) (hn : L.length < 100000) :
    Calls Yba.prog 30 #[v, x.val] w fun e w' => InsP EK 63 w B v (ins L x) e w' := by
  rcases Nat.eq_zero_or_pos L.length with h | h
  · have hnil : L = [] := List.eq_nil_of_length_eq_zero h
    subst hnil
    exact keep_nil x B v w hL hB
  · exact keep_pos L x B v w hL hB hr hn h
end Go.Proofs.Ybulkdkqw.lawS5586AWhole
