import Derived.Test.YbulkdkqwQArr
namespace Go.Proofs.Ybulkdkqw.lawS5586AWhole
open Go.ChangeShapes Go.WideShapes Go.ChangeAt Go.RowKit

/-- Who is sent the message at once. -/
def nowF (ps : List Peer) (ids : List Int) (sf : Int) (p : Peer) (tt : List Int) : List Int :=
  if (decide (0 < tt.length) && reachB ps ids p) = true then (if (0 : Int) = sf then tt else []) else tt

theorem wpStill_skip2 {P : Program} {ops : Array Oper} {w : World} {Q : Act → Prop} {a : Act} {o : Oper} {rest : List Oper} (hw : Region.wanted o (yielded ops a.tmps) = false)
    (h : ∀ a', a' = a.put o.dst undef → wpStill P ops w Q rest a') : wpStill P ops w Q (o :: rest) a := wpStill_skip hw (h _ rfl)

section
variable {w : World} {B Rb : Nat} {sf : Int} {vids : Value} {ids : List Int} {pm um nm mk : Nat} {ps : List Peer} {unm : List Int} {ucnt : Nat} {no : Nat} {KB : Nat → Nat} {FF : Nat → Int → Value} {SS : Nat → Int → List KM} {NN : Nat → Nat} {m : Nat}

set_option maxRecDepth 1000000 in
set_option maxHeartbeats 2000000 in
/-- arrived, of an origin that is no peer. -/
theorem arrived_none (hRt : Rt w B Rb sf vids ids pm um nm mk ps unm ucnt) (hKa : KeptAll w B no KB FF SS NN m) (e : Env) (mo : Option Addr) (ml mc : Nat) (hu : U e.origin) (hp : ps.find? (fun q => q.id == e.origin) = none) :
    Calls Yba.prog 31 #[.pointer (some ⟨Rb, 0, none⟩), e.val, .slice mo ml mc, .int .u64 sf] w fun r w' => ArrP B no KB w [] SS m r w' := by
  have HRt : Hid (Rt w B Rb sf vids ids pm um nm mk ps unm ucnt) := hRt
  have HKa : Hid (KeptAll w B no KB FF SS NN m) := hKa
  clear hRt hKa
  simp only [Env.val]
  go_enter Yba.func31, Yba.ntmps31
  refine wp_seq_k ?_
  intro K hK
  have HK := show Hid _ from hK
  clear hK
  go_wp2_with fail
  refine HK.out _ _ ?_
  clear HK K
  generalize hwb : World.alloc _ _ = wb
  have hbb : Below w.heap.size w wb := by subst hwb; exact nb (Below.refl _ _) (Nat.le_refl _) _
  have hsz : wb.heap.size = w.heap.size + 1 := by subst hwb; simp
  have x0 : wb.cell? ⟨w.heap.size, 0, none⟩ = some (.int .u64 e.origin) := by subst hwb; simp [go_sem]
  have x3 : wb.cell? ⟨w.heap.size, 3, none⟩ = some (.map none) := by subst hwb; simp [go_sem]
  clear hwb
  have HB : Hid (Below w.heap.size w wb) := hbb
  clear hbb
  go_wp2_with fail
  refine (claim_any (HRt.out.later HB.out) hu).mono ?_
  rintro r w1 ⟨rfl, hb1⟩
  have HB1 : Hid (Below w.heap.size w w1) := HB.out.trans (hb1.mono (by omega))
  have y0 := (hb1.cell (p := ⟨w.heap.size, 0, none⟩) (by simp; omega)).trans x0
  have c1 := (HRt.out.later HB1.out).c1
  have hl : ∀ q, (Instr.lookup 27 (.map (some pm)) (.int .u64 e.origin) false).run Yba.prog (w1.drewN q) = .ok (.pointer none) (w1.drewN q) := fun q => by
    have := ((HRt.out.later HB1.out).dr q).pmap.look Yba.underlying27 (zero74 _) hu
    simpa [pmF, hp] using this
  clear hb1 x0 x3
  go_wp2_with fail
  go_quiet (fail)
  go_wp2_with fail
  go_ret
  exact ⟨_, FF, NN, rfl, Sl.nil _ _, (HKa.out.later (below_drewN HB1.out _)).up, KOnly.of_below (below_drewN HB1.out _)⟩

attribute [local irreducible] wpStill in
set_option maxRecDepth 1000000 in
set_option maxHeartbeats 4000000 in
/-- arrived, of a peer's message. -/
theorem arrived_some (hRt : Rt w B Rb sf vids ids pm um nm mk ps unm ucnt) (hSep : Sep w Rb pm um nm ps no KB) (hKa : KeptAll w B no KB FF SS NN m) (hB : B ≤ w.heap.size) (hm : m < 90000) (e : Env) (mo : Option Addr) (ml mc : Nat) (hu : U e.origin) (hi : U e.interim) (hus : ∀ a ∈ unm, U a) (hl : ids.length ≤ 2000)
    {p : Peer} (hp : ps.find? (fun q => q.id == e.origin) = some p) {o : Nat} (ho : o < no) (hkb : KB o = p.kb) (tt : List Int) (hto : ids.filter (lackId ps e.name e.seq sf) = tt) (SS' : Nat → Int → List KM)
    (hSS : SS' = if (decide ((nowF ps ids sf p tt).length < tt.length) || awaitB unm e.name) = true then set2 SS o e.name (ins (SS o e.name) ⟨e.seq, mo, ml, mc, sf⟩) else SS) :
    Calls Yba.prog 31 #[.pointer (some ⟨Rb, 0, none⟩), e.val, .slice mo ml mc, .int .u64 sf] w fun r w' => ArrP B no KB w (nowF ps ids sf p tt) SS' m r w' := by
  have HRt : Hid (Rt w B Rb sf vids ids pm um nm mk ps unm ucnt) := hRt
  have HKa : Hid (KeptAll w B no KB FF SS NN m) := hKa
  have HSep : Hid (Sep w Rb pm um nm ps no KB) := hSep
  have HUs : Hid (∀ a ∈ unm, U a) := hus
  have HTo : Hid (ids.filter (lackId ps e.name e.seq sf) = tt) := hto
  have HSS : Hid (SS' = if (decide ((nowF ps ids sf p tt).length < tt.length) || awaitB unm e.name) = true then set2 SS o e.name (ins (SS o e.name) ⟨e.seq, mo, ml, mc, sf⟩) else SS) := hSS
  have htl : tt.length ≤ 2000 := by rw [← HTo.out]; exact Nat.le_trans (List.length_filter_le _ _) hl
  have hpid := find_id hp
  have hpm : p ∈ ps := List.mem_of_find?_eq_some hp
  have HP : Hid (ps.find? (fun q => q.id == e.origin) = some p) := hp
  have hun : U e.name := by unfold Env.name; split <;> assumption
  clear hRt hKa hSep hus hto hSS
  simp only [Env.val]
  go_enter Yba.func31, Yba.ntmps31
  refine wp_seq_k ?_
  intro K hK
  have HK := show Hid _ from hK
  clear hK
  go_wp2_with fail
  refine HK.out _ _ ?_
  clear HK K
  generalize hwb : World.alloc _ _ = wb
  have hbb : Below w.heap.size w wb := by subst hwb; exact nb (Below.refl _ _) (Nat.le_refl _) _
  have hsz : wb.heap.size = w.heap.size + 1 := by subst hwb; simp
  have hblk : wb.heap[w.heap.size]? = some (.cells #[.int .u64 e.origin, .int .u64 e.interim, .int .u64 e.seq, .map none, .map none, .slice none 0 0] 56 (0, 0)) := by subst hwb; exact Deep.blk_alloc_new _ _
  clear hwb
  have hcell : ∀ (wq : World), Below wb.heap.size wb wq → wq.heap[w.heap.size]? = some (.cells #[.int .u64 e.origin, .int .u64 e.interim, .int .u64 e.seq, .map none, .map none, .slice none 0 0] 56 (0, 0)) := fun wq hq => (hq.block _ (by omega)).trans hblk
  have HCell : Hid (∀ (wq : World), Below wb.heap.size wb wq → wq.heap[w.heap.size]? = some (.cells #[.int .u64 e.origin, .int .u64 e.interim, .int .u64 e.seq, .map none, .map none, .slice none 0 0] 56 (0, 0))) := hcell
  have HC : Hid (∀ (wq : World), Below wb.heap.size wb wq → (wq.cell? ⟨w.heap.size, 0, none⟩ = some (.int .u64 e.origin) ∧ wq.cell? ⟨w.heap.size, 1, none⟩ = some (.int .u64 e.interim) ∧ wq.cell? ⟨w.heap.size, 2, none⟩ = some (.int .u64 e.seq)) ∧ wq.cell? ⟨w.heap.size, 3, none⟩ = some (.map none) ∧ wq.cell? ⟨w.heap.size, 4, none⟩ = some (.map none) ∧ wq.cell? ⟨w.heap.size, 5, none⟩ = some (.slice none 0 0)) := fun wq hq => by
    have := hcell wq hq
    simp [World.cell?, this]
  have HB : Hid (Below w.heap.size w wb) := hbb
  obtain ⟨⟨x0, _, _⟩, x3, _⟩ := HC.out wb (Below.refl _ _)
  clear hbb hcell hblk
  refine wp_seq_k ?_
  intro K hK
  have HK := show Hid _ from hK
  clear hK
  go_wp2_with fail
  refine (claim_any (HRt.out.later HB.out) hu).mono ?_
  rintro r w1 ⟨rfl, hb1⟩
  have HB1b : Hid (Below wb.heap.size wb w1) := hb1
  have HB1 : Hid (Below w.heap.size w w1) := HB.out.trans (hb1.mono (by omega))
  clear hb1 x0 x3
  go_wp2_with fail
  refine HK.out _ _ ?_
  clear HK K
  obtain ⟨⟨x0, x1, x2⟩, x3, x4, x5⟩ := HC.out w1 HB1b.out
  have c1 := (HRt.out.later HB1.out).c1
  have hlk : ∀ q, (Instr.lookup 27 (.map (some pm)) (.int .u64 e.origin) false).run Yba.prog (w1.drewN q) = .ok (.pointer (some ⟨p.blk, 0, none⟩)) (w1.drewN q) := fun q => by
    have := ((HRt.out.later HB1.out).dr q).pmap.look Yba.underlying27 (zero74 _) hu
    simpa [pmF, HP.out] using this
  refine wp_seq_k ?_
  intro K hK
  have HK := show Hid _ from hK
  clear hK
  go_quiet (fail)
  go_wp2_with fail
  refine HK.out _ _ ?_
  clear HK K
  generalize hwd : w1.drewN _ = wd
  have HBd : Hid (Below w1.heap.size w1 wd) := by subst hwd; exact below_drewN (Below.refl _ _) _
  clear hwd x0 x1 x2 x3 x4 x5 c1 hlk
  have HBdb : Hid (Below wb.heap.size wb wd) := HB1b.out.trans (HBd.out.mono HB1b.out.size)
  obtain ⟨⟨x0, x1, x2⟩, x3, x4, x5⟩ := HC.out wd HBdb.out
  refine wp_seq_k ?_
  intro K hK
  have HK := show Hid _ from hK
  clear hK
  go_wp2_with fail
  refine HK.out _ _ ?_
  clear HK K
  refine wp_seq_k ?_
  intro K hK
  have HK := show Hid _ from hK
  clear hK
  go_wp2_with fail
  have hser := series_any e wd
  simp only [Env.val] at hser
  refine hser.mono ?_
  rintro r w2 ⟨rfl, hb2⟩
  have HB2b : Hid (Below wb.heap.size wb w2) := HBdb.out.trans (hb2.mono HBdb.out.size)
  clear hb2 hser x0 x1 x2 x3 x4 x5
  go_wp2_with fail
  refine HK.out _ _ ?_
  clear HK K
  obtain ⟨⟨x0, x1, x2⟩, x3, x4, x5⟩ := HC.out w2 HB2b.out
  have HB2 : Hid (Below w.heap.size w w2) := HB.out.trans (HB2b.out.mono (by omega))
  refine wp_seq_k ?_
  intro K hK
  have HK := show Hid _ from hK
  clear hK
  go_wp2_with fail
  refine (lacking_any (HRt.out.later HB2.out) e.name e.seq sf hun hl).mono ?_
  rintro r w3 ⟨vt, rfl, hst, hb3⟩
  rw [HTo.out] at hst
  have HST : Hid (Sl E64 22 w3 w.heap.size vt tt) := hst.mono HB2.out.size
  have HB3b : Hid (Below wb.heap.size wb w3) := HB2b.out.trans (hb3.mono HB2b.out.size)
  have HB3 : Hid (Below w.heap.size w w3) := HB.out.trans (HB3b.out.mono (by omega))
  clear hst hb3 x0 x1 x2 x3 x4 x5
  go_wp2_with fail
  refine HK.out _ _ ?_
  clear HK K
  obtain ⟨at', tc, rfl, hop⟩ := HST.out.open
  have HOp : Hid (0 < tt.length → ∃ g, at' = some ⟨g, 0, none⟩ ∧ g < w3.heap.size ∧ ∀ (i : Nat) (a : Int), tt[i]? = some a → w3.cell? ⟨g, i, none⟩ = some (.int .u64 a)) := fun h0 => by
    obtain ⟨g, h1, _, h2, _, _, h3⟩ := hop h0
    exact ⟨g, h1, h2, fun i a hi => by have := h3 i a hi 0 _ rfl; simpa [E64] using this⟩
  clear hop
  refine wp_seq_k ?_
  intro K hK
  have HK := show Hid _ from hK
  clear hK
  go_wp2_with fail
  refine HK.out _ _ ?_
  clear HK K
  have hk3 : KOnly no KB w w3 := KOnly.of_below HB3.out
  refine wp_seq_k ?_
  intro K hK
  have HK := show Hid _ from hK
  clear hK
  obtain ⟨⟨x0, x1, x2⟩, x3, x4, x5⟩ := HC.out w3 HB3b.out
  by_cases h0 : 0 < tt.length
  · have h0b : decide ((tt.length : Int) > 0) = true := by simp; omega
    have hreach := reaches_any (p := p) (HRt.out.later HB3.out) (by rw [hpid]; exact HP.out) (by rw [hpid]; exact hu) hl
    rw [hpid] at hreach
    have HReach : Hid (Calls Yba.prog 47 #[.pointer (some ⟨Rb, 0, none⟩), .int .u64 e.origin] w3 fun e w' => e = .returned (.bool (reachB ps ids p)) ∧ Below w3.heap.size w3 w') := hreach
    have HPid : Hid (p.id = e.origin) := hpid
    clear hreach hpid hp
    go_wp2_with fail
    refine HReach.out.mono ?_
    rintro r w4 ⟨rfl, hb4⟩
    have HB4b : Hid (Below wb.heap.size wb w4) := HB3b.out.trans (hb4.mono HB3b.out.size)
    have HB4 : Hid (Below w.heap.size w w4) := HB.out.trans (HB4b.out.mono (by omega))
    have HB34 : Hid (Below w3.heap.size w3 w4) := hb4
    clear hb4 x0 x1 x2 x3 x4 x5
    obtain ⟨⟨x0, x1, x2⟩, x3, x4, x5⟩ := HC.out w4 HB4b.out
    cases hrc : reachB ps ids p with
    | false =>
      have hnw : nowF ps ids sf p tt = tt := by unfold nowF; simp [hrc]
      have hnl : (nowF ps ids sf p tt).length = tt.length := by rw [hnw]
      have HNw : Hid (nowF ps ids sf p tt = tt) := hnw
      have hSS := HSS.out
      rw [hnl] at hSS
      have HSS3 : Hid (SS' = if (decide (tt.length < tt.length) || awaitB unm e.name) = true then set2 SS o e.name (ins (SS o e.name) ⟨e.seq, mo, ml, mc, sf⟩) else SS) := hSS
      clear hSS hnw hnl
      go_wp2_with fail
      refine HK.out _ _ ?_
      clear HK K
      exact arr8 w w4 B Rb sf vids ids pm um nm mk ps unm ucnt no KB FF SS NN m o w.heap.size _ p e.name e.seq mo at' at' ml mc tt.length tc tt.length tc (nowF ps ids sf p tt) (KOnly.of_below HB4.out) (HRt.out.later HB4.out) (HSep.out.konly (KOnly.of_below HB4.out) (HKa.out.later HB4.out).maps) (HKa.out.later HB4.out) (Nat.le_trans hB HB4.out.size) hm ho hkb hpm hun HUs.out (HCell.out w4 HB4b.out) x2 SS' HSS3.out (by rw [HNw.out]; exact HST.out.later HB34.out) _ rfl
    | true =>
      have HNw : Hid (nowF ps ids sf p tt = (if (0 : Int) = sf then tt.take tt.length else [])) := by show nowF ps ids sf p tt = _; unfold nowF; simp [hrc, h0]
      go_wp2_with fail
      clear x0 x1 x2 x3 x4 x5 hrc
      go_loopw [12, 50] (fun v i wr => ∃ k : Nat, k ≤ tt.length ∧ i = .int .i64 k ∧ Sl E64 22 wr w4.heap.size v (if (0 : Int) = sf then tt.take k else []) ∧ Below w4.heap.size w4 wr) (fun _ i _ => tt.length - (intOf i).toNat)
      case atStart => exact ⟨0, Nat.zero_le _, rfl, by simpa using Sl.nil _ _, Below.refl _ _⟩
      case round =>
        obtain ⟨k, hk, rfl, hv, hb⟩ := hrel
        have HV : Hid (Sl E64 22 wr w4.heap.size u12 (if (0 : Int) = sf then tt.take k else [])) := hv
        have HBr : Hid (Below w4.heap.size w4 wr) := hb
        have HBrb : Hid (Below wb.heap.size wb wr) := HB4b.out.trans (hb.mono HB4b.out.size)
        have HBr0 : Hid (Below w.heap.size w wr) := HB.out.trans (HBrb.out.mono (by omega))
        have HBr3 : Hid (Below w3.heap.size w3 wr) := HB34.out.trans (hb.mono HB34.out.size)
        clear hv hb
        obtain ⟨⟨x0, x1, x2⟩, x3, x4, x5⟩ := HC.out wr HBrb.out
        by_cases hlt : k < tt.length
        · obtain ⟨g, rfl, hgl, hcell⟩ := HOp.out (by omega)
          obtain ⟨a, ha⟩ : ∃ a, tt[k]? = some a := ⟨_, List.getElem?_eq_getElem hlt⟩
          have d0 := (HBr3.out.cell (p := ⟨g, k, none⟩) hgl).trans (hcell k a ha)
          have hmem : a ∈ ids.filter (lackId ps e.name e.seq sf) := by rw [HTo.out]; exact List.mem_of_getElem? ha
          obtain ⟨hai, hal⟩ := List.mem_filter.1 hmem
          obtain ⟨hua, q, hq⟩ := HRt.out.uids a hai
          have hqid := find_id hq
          have hseq : decide (e.seq ≤ 0) = false := by
            unfold lackId at hal
            rw [hq] at hal
            simp [lackB] at hal
            exact decide_eq_false (by omega)
          have hRr := (HRt.out.later HBr0.out)
          have hcall := asks_any (p := q) (hRr.dr 1) e.origin (by rw [hqid]; exact hq) (by rw [hqid]; exact hua)
          rw [hqid] at hcall
          have HA : Hid (tt[k]? = some a ∧ k < tt.length) := ⟨ha, hlt⟩
          have HCall : Hid (Calls Yba.prog 48 #[.pointer (some ⟨Rb, 0, none⟩), .int .u64 a, .int .u64 e.origin] wr.drew fun e w' => e = .returned (.bool ((0 : Int) == sf)) ∧ Below wr.heap.size wr.drew w') := hcall
          have c9 := (hRr.peers p hpm).c9
          have hRd : Rt wr.drew B Rb sf vids ids pm um nm mk ps unm ucnt := hRr.dr 1
          have hl35 := (hRd.peers p hpm).joined.look Yba.underlying35 (zero29 _) hua
          simp only [Option.getD_none] at hl35
          have hl29 := Maps.look_nil (w := wr.drew) false keyed Yba.underlying29 (zero22 _) hun.key
          simp only [if_neg Bool.false_ne_true] at hl29
          clear hmem hai hal hq hqid hcall hRr hRd hcell ha
          have x0' : wr.drew.cell? ⟨w.heap.size, 0, none⟩ = some (.int .u64 e.origin) := x0
          have x2' : wr.drew.cell? ⟨w.heap.size, 2, none⟩ = some (.int .u64 e.seq) := x2
          have c9' : wr.drew.cell? ⟨p.blk, 9, none⟩ = some (.map (some p.jb)) := c9
          go_wp2_with fail
          refine region_tail2 27 (by kernel_rfl) ?_
          intro KK hKK
          simp only [List.take_succ_cons, List.take_zero]
          (refine wpStill_want rfl (fun K hK => ?_); go_simp; refine hK _ ?_; clear hK K)
          (refine wpStill_want rfl (fun K hK => ?_); go_simp; refine hK _ ?_; clear hK K)
          (refine wpStill_want rfl (fun K hK => ?_); go_simp; refine hK _ ?_; clear hK K)
          (refine wpStill_want rfl (fun K hK => ?_); go_simp; refine hK _ ?_; clear hK K)
          (refine wpStill_want rfl (fun K hK => ?_); go_simp; refine hK _ ?_; clear hK K)
          (refine wpStill_want rfl (fun K hK => ?_); go_simp; refine hK _ ?_; clear hK K)
          (refine wpStill_want rfl (fun K hK => ?_); go_simp; refine hK _ ?_; clear hK K)
          (refine wpStill_want rfl (fun K hK => ?_); go_simp; refine hK _ ?_; clear hK K)
          (refine wpStill_want rfl (fun K hK => ?_); go_simp; refine hK _ ?_; clear hK K)
          (refine wpStill_want rfl (fun K hK => ?_); go_simp; refine hK _ ?_; clear hK K)
          (refine wpStill_want rfl (fun K hK => ?_); go_simp; refine hK _ ?_; clear hK K)
          (refine wpStill_want rfl (fun K hK => ?_); go_simp; refine hK _ ?_; clear hK K)
          (refine wpStill_skip2 rfl (fun a' ha' => ?_); simp [go_sem] at ha'; subst ha')
          (refine wpStill_skip2 rfl (fun a' ha' => ?_); simp [go_sem] at ha'; subst ha')
          (refine wpStill_skip2 rfl (fun a' ha' => ?_); simp [go_sem] at ha'; subst ha')
          (refine wpStill_skip2 rfl (fun a' ha' => ?_); simp [go_sem] at ha'; subst ha')
          (refine wpStill_skip2 rfl (fun a' ha' => ?_); simp [go_sem] at ha'; subst ha')
          (refine wpStill_skip2 rfl (fun a' ha' => ?_); simp [go_sem] at ha'; subst ha')
          (refine wpStill_skip2 rfl (fun a' ha' => ?_); simp [go_sem] at ha'; subst ha')
          (refine wpStill_skip2 rfl (fun a' ha' => ?_); simp [go_sem] at ha'; subst ha')
          (refine wpStill_skip2 rfl (fun a' ha' => ?_); simp [go_sem] at ha'; subst ha')
          (refine wpStill_want rfl (fun K hK => ?_); go_simp; refine hK _ ?_; clear hK K)
          (refine wpStill_want rfl (fun K hK => ?_); go_simp; refine hK _ ?_; clear hK K)
          (refine wpStill_want rfl (fun K hK => ?_); go_simp; refine hK _ ?_; clear hK K)
          (refine wpStill_want rfl (fun K hK => ?_); go_simp; refine hK _ ?_; clear hK K)
          (refine wpStill_want rfl (fun K hK => ?_); go_simp; refine hK _ ?_; clear hK K)
          (refine wpStill_want rfl (fun K hK => ?_); go_simp; refine hK _ ?_; clear hK K)
          refine wpStill_nil ?_
          refine hKK _ ?_
          clear hKK KK
          simp only [List.drop_succ_cons, List.drop_zero]
          refine wpList_want rfl (fun K hK => ?_)
          go_simp
          refine HCall.out.mono ?_
          rintro r wy ⟨rfl, hby⟩
          have HBy : Hid (Below wr.heap.size wr wy) := (below_drewN (Below.refl _ _) 1).trans hby
          clear hby hl35 hl29 x0' x2' c9' c9 d0 HCall
          refine hK _ _ ?_
          clear hK K
          have HVy : Hid (Sl E64 22 wy w4.heap.size u12 (if (0 : Int) = sf then tt.take k else [])) := HV.out.later HBy.out
          have HBr4 : Hid (Below w4.heap.size w4 wy) := HBr.out.trans (HBy.out.mono HBr.out.size)
          by_cases hsf : (0 : Int) = sf
          · have hsfb : ((0 : Int) == sf) = true := by simpa using hsf
            have hpre : Sl E64 22 wy w4.heap.size u12 (tt.take k) := by have := HVy.out; rwa [if_pos hsf] at this
            obtain ⟨v', w', hrun, hS, hg, _⟩ := hpre.push (T := 24) Yba.underlying24 info22 rfl (by decide) HBr4.out.size (by simp; omega) (by decide) a #[.int .u64 a] rfl
            have HS : Hid (Sl E64 22 w' w4.heap.size v' (if (0 : Int) = sf then tt.take (k + 1) else [])) := by
              show Sl E64 22 w' w4.heap.size v' (if (0 : Int) = sf then tt.take (k + 1) else [])
              rw [if_pos hsf, List.take_add_one, HA.out.1]
              exact hS
            have HB' : Hid (Below w4.heap.size w4 w') := HBr4.out.trans (grown_below hg (fun j hj => (hpre.lt hj).1) HBr4.out.size)
            clear hpre hS hg hsf
            go_wp2_with (at_builtin; refine wpList_append_run 24 hrun rfl _ _ rfl rfl rfl rfl ?_)
            go_roundw
            case rel => exact ⟨k + 1, by have := HA.out.2; omega, by go_num, HS.out, HB'.out⟩
            case measure => have := HA.out.2; simp [intOf]; omega
          · have hsfb : ((0 : Int) == sf) = false := by simpa using hsf
            have HS : Hid (Sl E64 22 wy w4.heap.size u12 (if (0 : Int) = sf then tt.take (k + 1) else [])) := by
              have := HVy.out
              rw [if_neg hsf] at this
              show Sl E64 22 wy w4.heap.size u12 (if (0 : Int) = sf then tt.take (k + 1) else [])
              rw [if_neg hsf]
              exact this
            clear hsf
            go_wp2_with fail
            go_roundw
            case rel => exact ⟨k + 1, by have := HA.out.2; omega, by go_num, HS.out, HBr4.out⟩
            case measure => have := HA.out.2; simp [intOf]; omega
        · have hkn : k = tt.length := by omega
          subst hkn
          have HV' : Hid (Sl E64 22 wr w4.heap.size u12 (nowF ps ids sf p tt)) := by show Sl E64 22 wr w4.heap.size u12 (nowF ps ids sf p tt); rw [HNw.out]; exact HV.out
          clear HV hlt
          go_wp2_with fail
          refine HK.out _ _ ?_
          obtain ⟨an, nc, rfl, _⟩ := HV'.out.open
          exact arr8 w wr B Rb sf vids ids pm um nm mk ps unm ucnt no KB FF SS NN m o w.heap.size _ p e.name e.seq mo an at' ml mc _ nc tt.length tc (nowF ps ids sf p tt) (KOnly.of_below HBr0.out) (HRt.out.later HBr0.out) (HSep.out.konly (KOnly.of_below HBr0.out) (HKa.out.later HBr0.out).maps) (HKa.out.later HBr0.out) (Nat.le_trans hB HBr0.out.size) hm ho hkb hpm hun HUs.out (HCell.out wr HBrb.out) x2 SS' HSS.out (HV'.out.mono HB4.out.size) _ rfl
  · have h0b : decide ((tt.length : Int) > 0) = false := decide_eq_false (by omega)
    have hnw : nowF ps ids sf p tt = tt := by unfold nowF; simp [h0]
    have hnl : (nowF ps ids sf p tt).length = tt.length := by rw [hnw]
    have HNw : Hid (nowF ps ids sf p tt = tt) := hnw
    have hSS := HSS.out
    rw [hnl] at hSS
    have HSS3 : Hid (SS' = if (decide (tt.length < tt.length) || awaitB unm e.name) = true then set2 SS o e.name (ins (SS o e.name) ⟨e.seq, mo, ml, mc, sf⟩) else SS) := hSS
    clear hSS hnw hnl
    go_wp2_with fail
    refine HK.out _ _ ?_
    clear HK K
    exact arr8 w w3 B Rb sf vids ids pm um nm mk ps unm ucnt no KB FF SS NN m o w.heap.size _ p e.name e.seq mo at' at' ml mc tt.length tc tt.length tc (nowF ps ids sf p tt) hk3 (HRt.out.later HB3.out) (HSep.out.konly hk3 (HKa.out.later HB3.out).maps) (HKa.out.later HB3.out) (Nat.le_trans hB HB3.out.size) hm ho hkb hpm hun HUs.out (HCell.out w3 HB3b.out) x2 SS' HSS3.out (by rw [HNw.out]; exact HST.out) _ rfl
end
end Go.Proofs.Ybulkdkqw.lawS5586AWhole
