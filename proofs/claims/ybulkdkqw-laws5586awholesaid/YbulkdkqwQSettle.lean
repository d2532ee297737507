import Derived.Test.YbulkdkqwQView
namespace Go.Proofs.Ybulkdkqw.lawS5586AWhole
open Go.ChangeShapes Go.WideShapes Go.ChangeAt Go.RowKit

/-- Is the peer of this ID one that may yet lack messages of the name? -/
def liveB (ps : List Peer) (name a : Int) : Bool := (a != name) && (match ps.find? (fun p => p.id == a) with | some p => p.st != 2 | none => false)

def floorF (ps : List Peer) (name : Int) (ids : List Int) : Int := if ids.any (liveB ps name) then 0 else 18446744073709551615

/-- What settle leaves. -/
def leftF (ps : List Peer) (unm ids : List Int) (name : Int) (L : List KM) : List KM :=
  if awaitB unm name = true then L else L.filter (fun x => decide (floorF ps name ids < x.seq))

def gtK (L : List KM) (f : Int) (j : Nat) : Bool := match L[j]? with
  | some y => decide (f < y.seq)
  | none => true

set_option maxRecDepth 100000 in
/-- settle$1. -/
theorem settleFn_any (L : List KM) (f : Int) (v : Value) (bs bk : Nat) (j : Nat) (w : World) (hL : Rd w v L) (hj : j < L.length) (c0 : w.cell? ⟨bs, 0, none⟩ = some v) (c1 : w.cell? ⟨bk, 0, none⟩ = some (.int .u64 f)) :
    Calls Yba.prog 41 #[.int .i64 (j : Int), .pointer (some ⟨bs, 0, none⟩), .pointer (some ⟨bk, 0, none⟩)] w fun e w' => e = .returned (.bool (gtK L f j)) ∧ Below w.heap.size w w' := by
  obtain ⟨g, off, cap, cur, rfl, _, _, hcell⟩ := hL
  obtain ⟨y, hy⟩ : ∃ y, L[j]? = some y := ⟨_, List.getElem?_eq_getElem hj⟩
  have d0 := hcell j y hy 0 _ rfl
  simp only [Nat.add_zero] at d0
  have HY : Hid (L[j]? = some y) := hy
  have i1 : (j : Int) < (L.length : Int) := by omega
  clear hcell hy
  go_enter Yba.func41, Yba.ntmps41
  go_wp2_with fail
  go_quiet (fail)
  go_wp2_with fail
  go_ret
  refine ⟨?_, below_drewN (Below.refl _ _) _⟩
  unfold gtK
  rw [HY.out]
  rfl

/-- What settle does at (o, name). -/
def SettleP (no : Nat) (KB : Nat → Nat) (FF : Nat → Int → Value) (SS : Nat → Int → List KM) (m : Nat) (o : Nat) (name : Int) (left : List KM) (w : World) (e : Ending) (w' : World) : Prop :=
  e = .returned (.tuple #[]) ∧ (∃ FF' NN', KV w' no KB FF' (set2 SS o name left) NN' m) ∧ KOnly no KB w w' ∧
    (Below w.heap.size w w' ∨ (SS o name ≠ [] ∧ ∃ w1, w.grownBy w1 (FF o name).ownBlock ∧
      ((∃ v, (Instr.mapUpdate 34 (.map (some (KB o))) (.int .u64 name) v).run Yba.prog w1 = .ok () w') ∨ (∃ ty, (Builtin.delete_ #[34, 22] ty #[.map (some (KB o)), .int .u64 name]).run Yba.prog w1 = .ok (.tuple #[]) w'))))

section
variable {w : World} {B Rb : Nat} {sf : Int} {vids : Value} {ids : List Int} {pm um nm mk : Nat} {ps : List Peer} {unm : List Int} {ucnt : Nat} {no : Nat} {KB : Nat → Nat} {FF : Nat → Int → Value} {SS : Nat → Int → List KM} {NN : Nat → Nat} {m : Nat}

theorem set2_same {β : Type} (f : Nat → Int → β) (o : Nat) (a : Int) (v : β) (h : f o a = v) : set2 f o a v = f := by
  funext o' a'
  unfold set2
  by_cases e : o' = o ∧ a' = a
  · rw [if_pos e, e.1, e.2, h]
  · rw [if_neg e]

set_option maxRecDepth 1000000 in
set_option maxHeartbeats 4000000 in
/-- settle, of a name that has a keeper. -/
theorem settle_at (hRt : Rt w B Rb sf vids ids pm um nm mk ps unm ucnt) (hSep : Sep w Rb pm um nm ps no KB) (hKV : KV w no KB FF SS NN m) (hm : m < 90000) (name : Int) (hn : U name) (hus : ∀ a ∈ unm, U a) (hl : ids.length ≤ 2000)
    (o : Nat) (ho : o < no) (pb po : Nat) (hk : keepAt ps sf Rb name = .pointer (some ⟨pb, po, none⟩)) (hcell : ∀ w', Rt w' B Rb sf vids ids pm um nm mk ps unm ucnt → w'.cell? ⟨pb, po + 8, none⟩ = some (.map (some (KB o)))) :
    Calls Yba.prog 27 #[.pointer (some ⟨Rb, 0, none⟩), .int .u64 name] w fun e w' => SettleP no KB FF SS m o name (leftF ps unm ids name (SS o name)) w e w' := by
  have HRt : Hid (Rt w B Rb sf vids ids pm um nm mk ps unm ucnt) := hRt
  have HKV : Hid (KV w no KB FF SS NN m) := hKV
  have HSep : Hid (Sep w Rb pm um nm ps no KB) := hSep
  have HUs : Hid (∀ a ∈ unm, U a) := hus
  have HCl : Hid (∀ w', Rt w' B Rb sf vids ids pm um nm mk ps unm ucnt → w'.cell? ⟨pb, po + 8, none⟩ = some (.map (some (KB o)))) := hcell
  have c8 := hcell w hRt
  have hkc := keeper_any hRt hn
  rw [hk] at hkc
  have HKc : Hid (Calls Yba.prog 38 #[.pointer (some ⟨Rb, 0, none⟩), .int .u64 name] w fun e w' => e = .returned (.pointer (some ⟨pb, po, none⟩)) ∧ w' = w) := hkc
  clear hRt hKV hSep hus hcell hk hkc
  go_enter Yba.func27, Yba.ntmps27
  refine wp_seq_k ?_
  intro K hK
  have HK := show Hid _ from hK
  clear hK
  go_wp2_with fail
  refine HKc.out.mono ?_
  rintro e w1 ⟨rfl, rfl⟩
  go_wp2_with fail
  refine HK.out _ _ ?_
  clear HK K
  have hlk : (Instr.lookup 34 (.map (some (KB o))) (.int .u64 name) false).run Yba.prog w1 = .ok (curV FF SS o name) w1 := (HKV.out.map o ho).look Yba.underlying34 (zero68 w1) hn
  by_cases hnil : SS o name = []
  · have hcv : curV FF SS o name = .slice none 0 0 := by unfold curV mapOf; rw [if_pos hnil]; rfl
    rw [hcv] at hlk
    have HF : Hid (SettleP no KB FF SS m o name (leftF ps unm ids name (SS o name)) w1 (.returned (.tuple #[])) w1) := by
      refine ⟨rfl, ⟨FF, NN, ?_⟩, KOnly.refl _, .inl (Below.refl _ _)⟩
      rw [set2_same SS o name _ (by rw [hnil]; unfold leftF; simp)]
      exact HKV.out
    clear hcv
    go_wp2_with fail
    simp [bodyPost, results, Yba.results27]
    exact HF.out
  · obtain ⟨g, off, cap, cur, hv, hb, hcap, hce⟩ := HKV.out.row o name ho hnil
    have hcv : curV FF SS o name = .slice (some ⟨g, off, none⟩) (SS o name).length cap := by unfold curV mapOf; rw [if_neg hnil]; exact hv
    rw [hcv] at hlk
    have hne : ¬ (SS o name).length = 0 := by
      intro e; exact hnil (List.length_eq_zero_iff.1 e)
    have hneb : (((SS o name).length : Int) == 0) = false := by simp; exact hnil
    have HCe : Hid (∀ (i : Nat) (x : KM), (SS o name)[i]? = some x → ∀ (j : Nat) (u : Value), (EK.cs x)[j]? = some u → w1.cell? ⟨g, off + (i * 3 + j), none⟩ = some u) := hce
    have HV : Hid (FF o name = .slice (some ⟨g, off, none⟩) (SS o name).length cap) := hv
    have HRise : Hid (Rising (SS o name)) := HKV.out.rise o name ho
    have hlm : (SS o name).length < 90000 := Nat.lt_of_le_of_lt (HKV.out.len o name ho) hm
    have hgl : g < w1.heap.size := (Array.getElem?_eq_some_iff.1 hb).1
    have HNil : Hid (¬ SS o name = []) := hnil
    have HBk : Hid (w1.heap[g]? = some (.cells cur 63 (0, 0))) := hb
    clear hce hv hcv hnil hb
    obtain ⟨L, hL⟩ : ∃ L, SS o name = L := ⟨_, rfl⟩
    rw [hL] at HCe HV HRise HNil
    rw [hL] at hlk hne hneb hlm hcap
    have HL : Hid (SS o name = L) := hL
    clear hL
    refine wp_seq_k ?_
    intro K hK
    have HK := show Hid _ from hK
    clear hK
    go_wp2_with fail
    refine (awaited_any HRt.out hn HUs.out).mono ?_
    rintro e w2 ⟨rfl, hb2⟩
    have HB2 : Hid (Below w1.heap.size w1 w2) := hb2
    clear hb2
    cases haw : awaitB unm name with
    | true =>
      have HF : Hid (SettleP no KB FF SS m o name (leftF ps unm ids name (SS o name)) w1 (.returned (.tuple #[])) w2) := by
        refine ⟨rfl, ⟨FF, NN, ?_⟩, KOnly.of_below HB2.out, .inl HB2.out⟩
        rw [set2_same SS o name _ (by unfold leftF; rw [if_pos haw])]
        exact HKV.out.later HB2.out
      clear haw
      go_wp2_with fail
      simp [bodyPost, results, Yba.results27]
      exact HF.out
    | false =>
      have HLeft : Hid (leftF ps unm ids name (SS o name) = L.filter (fun x => decide (floorF ps name ids < x.seq))) := by
        show leftF ps unm ids name (SS o name) = _
        rw [HL.out]; unfold leftF; rw [haw]; rfl
      clear haw hlk c8
      go_wp2_with fail
      refine HK.out _ _ ?_
      clear HK K
      refine wp_seq_k ?_
      intro K hK
      have HK := show Hid _ from hK
      clear hK
      go_wp2_with fail
      refine (replicaOf_any (HRt.out.later HB2.out) hn).mono ?_
      rintro e w3 ⟨rfl, rfl⟩
      go_wp2_with fail
      refine HK.out _ _ ?_
      clear HK K
      refine wp_seq_k ?_
      intro K hK
      have HK := show Hid _ from hK
      clear hK
      go_wp2_with fail
      refine HK.out _ _ ?_
      clear HK K
      obtain ⟨ao, ic, hvi, hop⟩ := HRt.out.hids.open
      subst hvi
      have HOp : Hid (0 < ids.length → ∃ gi, ao = some ⟨gi, 0, none⟩ ∧ gi < w1.heap.size ∧ ∀ (i : Nat) (a : Int), ids[i]? = some a → w1.cell? ⟨gi, i, none⟩ = some (.int .u64 a)) := fun h0 => by
        obtain ⟨gi, h1, _, h2, _, _, h3⟩ := hop h0
        exact ⟨gi, h1, h2, fun i a hi => by have := h3 i a hi 0 _ rfl; simpa [E64] using this⟩
      clear hop
      generalize hwa : World.alloc _ _ = wa
      have hba : Below w3.heap.size w3 wa := by subst hwa; exact nb (Below.refl _ _) (Nat.le_refl _) _
      have f0 : wa.cell? ⟨w3.heap.size, 0, none⟩ = some (.int .u64 18446744073709551615) := by subst hwa; simp [go_sem]
      have f1 : wa.frozen? ⟨w3.heap.size, 0, none⟩ = false := by subst hwa; simp [go_sem]
      have sza : wa.heap.size = w3.heap.size + 1 := by subst hwa; simp
      clear hwa
      have HBa : Hid (Below w1.heap.size w1 wa) := HB2.out.trans (hba.mono HB2.out.size)
      have c0 := (HRt.out.later HBa.out).c0
      clear hba
      refine wp_seq_k ?_
      intro K hK
      have HK := show Hid _ from hK
      clear hK
      go_wp2_with fail
      clear c0
      go_loopw [40] (fun i wr => ∃ k : Nat, k ≤ ids.length ∧ i = .int .i64 k ∧ wr.cell? ⟨w3.heap.size, 0, none⟩ = some (.int .u64 (floorF ps name (ids.take k))) ∧ wr.frozen? ⟨w3.heap.size, 0, none⟩ = false ∧ Below w3.heap.size wa wr) (fun i _ => ids.length - (intOf i).toNat)
      case atStart => exact ⟨0, Nat.zero_le _, rfl, f0, f1, Below.refl _ _⟩
      case round =>
        obtain ⟨k, hk, rfl, x0, x1, hbr⟩ := hrel
        have HBr : Hid (Below w3.heap.size wa wr) := hbr
        have HBr1 : Hid (Below w1.heap.size w1 wr) := HBa.out.trans (hbr.mono HB2.out.size)
        clear hbr f0 f1
        by_cases hlt : k < ids.length
        · obtain ⟨gi, rfl, hgil, hci⟩ := HOp.out (by omega)
          obtain ⟨a, ha⟩ : ∃ a, ids[k]? = some a := ⟨_, List.getElem?_eq_getElem hlt⟩
          have d0 := (HBr1.out.cell (p := ⟨gi, k, none⟩) hgil).trans (hci k a ha)
          obtain ⟨hua, q, hq⟩ := HRt.out.uids a (List.mem_of_getElem? ha)
          have hRr := HRt.out.later HBr1.out
          have c1 := hRr.c1
          have hl27 := hRr.pmap.look Yba.underlying27 (zero74 _) hua
          have hqe : pmF ps a = some (.pointer (some ⟨q.blk, 0, none⟩)) := by simp [pmF, hq]
          rw [hqe] at hl27
          simp only [Option.getD_some] at hl27
          have hpq := hRr.peers q (List.mem_of_find?_eq_some hq)
          have q0 := hpq.c0
          have hst0 := hpq.st0
          have hst2 := hpq.st2
          have HA : Hid (ids[k]? = some a ∧ k < ids.length) := ⟨ha, hlt⟩
          have hliv : liveB ps name a = ((a != name) && (q.st != 2)) := by unfold liveB; rw [hq]
          have hfl : floorF ps name (ids.take (k + 1)) = if ((a != name) && (q.st != 2)) = true then 0 else floorF ps name (ids.take k) := by
            unfold floorF
            rw [List.take_add_one, ha]
            simp only [Option.toList_some, List.any_append, List.any_cons, List.any_nil, Bool.or_false, hliv]
            cases (ids.take k).any (liveB ps name) <;> cases ((a != name) && (q.st != 2)) <;> rfl
          have HFl : Hid (floorF ps name (ids.take (k + 1)) = if ((a != name) && (q.st != 2)) = true then 0 else floorF ps name (ids.take k)) := hfl
          have q7 : wr.drew.cell? ⟨q.blk, 7, none⟩ = some (.map (some q.hb)) := hpq.c7
          have hRd : Rt wr.drew B Rb sf _ ids pm um nm mk ps unm ucnt := hRr.dr 1
          have hl29 := (hRd.peers q (List.mem_of_find?_eq_some hq)).has.look Yba.underlying29 (zero22 _) hn
          simp only [Option.getD_none] at hl29
          clear hRr hRd hpq hq hqe hliv hfl hci ha
          by_cases h1 : a = name
          · have h1b : (a != name) = false := by simpa using h1
            clear h1
            go_wp2_with fail
            go_roundw
            case rel =>
              refine ⟨k + 1, by have := HA.out.2; omega, by go_num, ?_, x1, HBr.out⟩
              rw [HFl.out, h1b]
              simpa using x0
            case measure => have := HA.out.2; simp [intOf]; omega
          · have h1b : (a != name) = true := by simpa using h1
            clear h1
            by_cases h2 : q.st = 2
            · have h2b : (q.st != 2) = false := by simpa using h2
              clear h2
              go_wp2_with fail
              go_roundw
              case rel =>
                refine ⟨k + 1, by have := HA.out.2; omega, by go_num, ?_, x1, HBr.out⟩
                rw [HFl.out, h2b]
                simpa using x0
              case measure => have := HA.out.2; simp [intOf]; omega
            · have h2b : (q.st != 2) = true := by simpa using h2
              clear h2
              have HFl2 : Hid (floorF ps name (ids.take (k + 1)) = 0) := by
                show floorF ps name (ids.take (k + 1)) = 0
                rw [HFl.out, h1b, h2b]; rfl
              have hff : floorF ps name (ids.take k) = 0 ∨ floorF ps name (ids.take k) = 18446744073709551615 := by unfold floorF; split <;> simp
              obtain ⟨ff, hffe⟩ : ∃ ff, floorF ps name (ids.take k) = ff := ⟨_, rfl⟩
              rw [hffe] at x0 hff
              have x0' : wr.drew.cell? ⟨w3.heap.size, 0, none⟩ = some (.int .u64 ff) := x0
              have x1' : wr.drew.frozen? ⟨w3.heap.size, 0, none⟩ = false := x1
              clear hffe
              go_wp2_with fail
              refine region_tail2 7 (by kernel_rfl) ?_
              intro KK hKK
              simp only [List.take_succ_cons, List.take_zero]
              repeat (refine wpStill_want rfl (fun K hK => ?_); go_simp; refine hK _ ?_; clear hK K)
              refine wpStill_nil ?_
              refine hKK _ ?_
              clear hKK KK
              simp only [List.drop_succ_cons, List.drop_zero]
              have HRel : Hid (∀ wz : World, wz = wr.drew.setCell ⟨w3.heap.size, 0, none⟩ (.int .u64 0) → wz.cell? ⟨w3.heap.size, 0, none⟩ = some (.int .u64 (floorF ps name (ids.take (k + 1)))) ∧ wz.frozen? ⟨w3.heap.size, 0, none⟩ = false ∧ Below w3.heap.size wa wz) := by
                rintro wz rfl
                refine ⟨?_, by rw [World.frozen?_setCell]; exact x1', (below_drewN HBr.out 1).setCell (Nat.le_refl _) _⟩
                rw [HFl2.out]
                exact World.cell?_setCell_same _ _ _ x0'
              rcases hff with rfl | rfl
              · go_wp2_with fail
                go_roundw
                case rel => exact ⟨k + 1, by have := HA.out.2; omega, by go_num, HRel.out _ rfl⟩
                case measure => have := HA.out.2; simp [intOf]; omega
              · go_wp2_with fail
                go_roundw
                case rel => exact ⟨k + 1, by have := HA.out.2; omega, by go_num, HRel.out _ rfl⟩
                case measure => have := HA.out.2; simp [intOf]; omega
        · have hkn : k = ids.length := by omega
          subst hkn
          rw [List.take_length] at x0
          clear hlt
          go_wp2_with fail
          refine HK.out _ _ ?_
          obtain ⟨f, hf⟩ : ∃ f, floorF ps name ids = f := ⟨_, rfl⟩
          rw [hf] at x0
          have HFf : Hid (floorF ps name ids = f) := hf
          clear hf
          have HKr : Hid (KV wr no KB FF SS NN m) := HKV.out.later HBr1.out
          have hlk : (Instr.lookup 34 (.map (some (KB o))) (.int .u64 name) false).run Yba.prog wr = .ok (.slice (some ⟨g, off, none⟩) L.length cap) wr := by
            have := (HKr.out.map o ho).look Yba.underlying34 (zero68 wr) hn
            unfold mapOf at this
            rw [HL.out, if_neg HNil.out, HV.out] at this
            exact this
          have c8 := HCl.out wr (HRt.out.later HBr1.out)
          refine wp_seq_k ?_
          intro K hK
          have HK2 := show Hid _ from hK
          clear hK
          go_wp2_with fail
          refine HK2.out _ _ ?_
          clear HK2
          generalize hwk : World.alloc _ _ = wk
          have hbk : Below wr.heap.size wr wk := by subst hwk; exact nb (Below.refl _ _) (Nat.le_refl _) _
          have k0 : wk.cell? ⟨wr.heap.size, 0, none⟩ = some (.slice (some ⟨g, off, none⟩) L.length cap) := by subst hwk; simp [go_sem]
          have szk : wk.heap.size = wr.heap.size + 1 := by subst hwk; simp
          clear hwk hlk c8
          have lf : w3.heap.size < wr.heap.size := World.block_lt_of_cell? wr _ x0
          have x0k := (hbk.cell (p := ⟨w3.heap.size, 0, none⟩) lf).trans x0
          have HBk1 : Hid (Below w1.heap.size w1 wk) := HBr1.out.trans (hbk.mono HBr1.out.size)
          clear hbk x0 x1
          have HRdk : Hid (∀ wq, Below wk.heap.size wk wq → Rd wq (.slice (some ⟨g, off, none⟩) L.length cap) L) := fun wq hbq => by
            have := (HKV.out.later (HBk1.out.trans (hbq.mono HBk1.out.size))).row o name ho (by rw [HL.out]; exact HNil.out)
            rw [HL.out, HV.out] at this
            exact this
          refine wp_seq_k ?_
          intro K hK
          have HK2 := show Hid _ from hK
          clear hK
          go_wp2_with fail
          have hsearch := search_any 41 (.pointer (some ⟨wr.heap.size, 0, none⟩)) (.pointer (some ⟨w3.heap.size, 0, none⟩)) (gtK L f) L.length (by omega) wk enter41 (fun j k hjk hk hj => by
              rcases Nat.lt_or_ge j k with h | h
              · have hjl : j < L.length := by omega
                unfold gtK at hj ⊢
                rw [List.getElem?_eq_getElem hjl] at hj
                rw [List.getElem?_eq_getElem hk]
                have h1 := List.pairwise_iff_getElem.1 HRise.out j k hjl hk h
                simp only [decide_eq_true_eq] at hj ⊢
                omega
              · have : j = k := by omega
                subst this; exact hj)
            (fun j wq hj hbq => settleFn_any L f _ wr.heap.size w3.heap.size j wq (HRdk.out wq hbq) hj ((hbq.cell (by simp; omega)).trans k0) ((hbq.cell (by simp; omega)).trans x0k))
          refine hsearch.mono ?_
          rintro e w5 ⟨i, rfl, hil, hlo, hhi, hb5⟩
          have HD : Hid (L.filter (fun x => decide (f < x.seq)) = L.drop i) := drop_above (fun k x hk hx => by
              have := hlo k hk
              unfold gtK at this
              rw [hx] at this
              simpa using this) (fun k x hk hx => by
              have := hhi k hk (lt_of_get hx)
              unfold gtK at this
              rw [hx] at this
              simpa using this)
          have k5 := (hb5.cell (p := ⟨wr.heap.size, 0, none⟩) (by simp; omega)).trans k0
          have HB51 : Hid (Below w1.heap.size w1 w5) := HBk1.out.trans (hb5.mono HBk1.out.size)
          have HRd5 : Hid (Rd w5 (.slice (some ⟨g, off, none⟩) L.length cap) L) := HRdk.out w5 hb5
          have sz5 : wr.heap.size < w5.heap.size := by have := hb5.size; omega
          clear hsearch hlo hhi hb5 k0 x0k
          go_wp2_with fail
          refine HK2.out _ _ ?_
          clear HK2
          obtain ⟨g', off', cap', cur5, hve, hbc5, _, hce5⟩ := HRd5.out
          cases hve
          obtain ⟨w6, hclr, hg6, ⟨cur6, hbc6⟩, hrest⟩ := run_clear63 w5 g off i cap 0 cur5 hbc5 (fun j hj => by
            obtain ⟨x, hx⟩ : ∃ x, L[j / 3]? = some x := ⟨_, List.getElem?_eq_getElem (by omega)⟩
            have h3 : j % 3 < 3 := Nat.mod_lt _ (by decide)
            have := hce5 (j / 3) x hx (j % 3) ((EK.cs x)[j % 3]'(by rw [EK.len]; exact h3)) (List.getElem?_eq_getElem _)
            rw [show j / 3 * 3 + j % 3 = j by omega] at this
            rw [this]; rfl)
          have hko5 : KOnly no KB w5 w6 := KOnly.of_row hg6 (fun b hb => by injection hb with hb; subst hb; exact ⟨cur5, hbc5⟩) (fun b hb => by injection hb with hb; subst hb; exact HKV.out.high o name g ho (by rw [HL.out]; exact HNil.out) (by rw [HV.out]; rfl))
          have HKo6 : Hid (KOnly no KB w1 w6) := (KOnly.of_below HB51.out).trans hko5
          have HRt6 : Hid (Rt w6 B Rb sf _ ids pm um nm mk ps unm ucnt) := HRt.out.konly HSep.out HKo6.out
          have hgown : (FF o name).ownBlock = some g := by rw [HV.out]; rfl
          have HG6 : Hid (w5.grownBy w6 (FF o name).ownBlock) := by show w5.grownBy w6 _; rw [hgown]; exact hg6
          have HG1 : Hid (w1.grownBy w6 (FF o name).ownBlock) := ⟨hg6.os.trans HB51.out.os, hg6.tape.trans HB51.out.tape, hg6.output.trans HB51.out.output, Nat.le_trans HB51.out.size hg6.size, fun k hk hne => (HG6.out.block k (Nat.lt_of_lt_of_le hk HB51.out.size) hne).trans (HB51.out.block k hk)⟩
          have k6 := (World.cell?_of_block (w := w5) (w' := w6) (a := ⟨wr.heap.size, 0, none⟩) (hg6.block wr.heap.size sz5 (fun e => by injection e with e; have := HBr1.out.size; omega))).trans k5
          have HKV5 : Hid (KV w5 no KB FF SS NN m) := HKV.out.later HB51.out
          have HRest : Hid (∀ j, off + i * 3 ≤ j → w6.cell? ⟨g, j, none⟩ = w5.cell? ⟨g, j, none⟩) := hrest
          have HCe5 : Hid (∀ (i : Nat) (x : KM), L[i]? = some x → ∀ (j : Nat) (u : Value), (EK.cs x)[j]? = some u → w5.cell? ⟨g, off + (i * 3 + j), none⟩ = some u) := hce5
          have c8 := HCl.out w6 HRt6.out
          have HBc6 : Hid (w6.heap[g]? = some (.cells cur6 63 (0, 0))) := hbc6
          clear hce5 hrest hko5 hg6 hbc5 hgown hbc6
          have hicap : i ≤ cap := Nat.le_trans hil hcap
          refine wp_seq_k ?_
          intro K hK
          have HK2 := show Hid _ from hK
          clear hK
          go_wp2_with fail
          refine HK2.out _ _ ?_
          clear HK2 hclr
          by_cases hie : i = L.length
          · have hieb : ((i : Int) == (L.length : Int)) = true := by rw [hie]; simp
            obtain ⟨w7, hdel, hkv7, hg7⟩ := HKV5.out.drop ho hn (by rw [HL.out]; exact HNil.out) HG6.out 0
            have HF : Hid (SettleP no KB FF SS m o name (leftF ps unm ids name (SS o name)) w1 (.returned (.tuple #[])) w7) := by
              refine ⟨rfl, ⟨FF, (fun o' => if o' = o then NN o - 1 else NN o'), ?_⟩, HKo6.out.trans (KOnly.of_map ho (HKV.out.base o ho) hg7), .inr ⟨by rw [HL.out]; exact HNil.out, w6, HG1.out, .inr ⟨0, hdel⟩⟩⟩
              rw [HLeft.out, HFf.out, HD.out, hie, List.drop_length]
              exact hkv7
            clear hkv7 hg7 hie
            go_wp2_with fail
            simp [bodyPost, results, Yba.results27]
            exact HF.out
          · have hieb : ((i : Int) == (L.length : Int)) = false := by simp; omega
            have hilt : i < L.length := by omega
            have hrd6 : Rd w6.drew (.slice (some ⟨g, off + i * 3, none⟩) (L.length - i) (cap - i)) (L.drop i) := by
              refine ⟨g, off + i * 3, cap - i, cur6, by simp, HBc6.out, by simp; omega, fun j x hx q u hu => ?_⟩
              rw [List.getElem?_drop] at hx
              have h1 := HCe5.out (i + j) x hx q u hu
              rw [show off + ((i + j) * 3 + q) = off + i * 3 + (j * 3 + q) by rw [Nat.add_mul]; omega] at h1
              exact (HRest.out _ (by omega)).trans h1
            have hgd : w5.grownBy w6.drew (FF o name).ownBlock := ⟨HG6.out.os, HG6.out.tape, HG6.out.output, HG6.out.size, HG6.out.block⟩
            have hgd1 : w1.grownBy w6.drew (FF o name).ownBlock := ⟨HG1.out.os, HG1.out.tape, HG1.out.output, HG1.out.size, HG1.out.block⟩
            obtain ⟨w7, hput, hkv7, hg7⟩ := HKV5.out.keep ho hn (by omega) (by rw [HL.out]; exact HNil.out) hgd (v := .slice (some ⟨g, off + i * 3, none⟩) (L.length - i) (cap - i)) (left := L.drop i) (by
                intro e
                have := congrArg List.length e
                simp at this
                omega) (List.Pairwise.sublist (List.drop_sublist _ _) HRise.out) (by
                have := HKV.out.len o name ho
                rw [HL.out] at this
                simp; omega) (by rw [HV.out]; rfl) hrd6
            have HF : Hid (SettleP no KB FF SS m o name (leftF ps unm ids name (SS o name)) w1 (.returned (.tuple #[])) w7) := by
              refine ⟨rfl, ⟨set2 FF o name (.slice (some ⟨g, off + i * 3, none⟩) (L.length - i) (cap - i)), NN, ?_⟩, (HKo6.out.trans (KOnly.of_below (below_drewN (Below.refl _ _) 1))).trans (KOnly.of_map ho (HKV.out.base o ho) hg7), .inr ⟨by rw [HL.out]; exact HNil.out, w6.drew, hgd1, .inl ⟨_, hput⟩⟩⟩
              rw [HLeft.out, HFf.out, HD.out]
              exact hkv7
            have c8' : w6.drew.cell? ⟨pb, po + 8, none⟩ = some (.map (some (KB o))) := c8
            have k6' : w6.drew.cell? ⟨wr.heap.size, 0, none⟩ = some (.slice (some ⟨g, off, none⟩) L.length cap) := k6
            clear hkv7 hg7 hie hgd hgd1 hrd6
            have hcne : ¬ cap = i := by omega
            go_wp2_with fail
            refine region_tail2 8 (by kernel_rfl) ?_
            intro KK hKK
            simp only [List.take_succ_cons, List.take_zero]
            iterate 7 (refine wpStill_want rfl (fun K hK => ?_); go_simp; refine hK _ ?_; clear hK K)
            refine wpStill_want rfl (fun K hK => ?_)
            go_simp
            refine hK _ ?_
            clear hK K
            refine wpStill_nil ?_
            refine hKK _ ?_
            clear hKK KK
            simp only [List.drop_succ_cons, List.drop_zero]
            go_wp2_with fail
            simp [bodyPost, results, Yba.results27]
            exact HF.out

set_option maxRecDepth 1000000 in
/-- settle, of a name that has no keeper. -/
theorem settle_none (hRt : Rt w B Rb sf vids ids pm um nm mk ps unm ucnt) (name : Int) (hn : U name) (hk : keepAt ps sf Rb name = .pointer none) :
    Calls Yba.prog 27 #[.pointer (some ⟨Rb, 0, none⟩), .int .u64 name] w fun e w' => e = .returned (.tuple #[]) ∧ w' = w := by
  have hkc := keeper_any hRt hn
  rw [hk] at hkc
  have HKc : Hid (Calls Yba.prog 38 #[.pointer (some ⟨Rb, 0, none⟩), .int .u64 name] w fun e w' => e = .returned (.pointer none) ∧ w' = w) := hkc
  clear hRt hk hkc
  go_enter Yba.func27, Yba.ntmps27
  go_wp2_with fail
  refine HKc.out.mono ?_
  rintro e w1 ⟨rfl, rfl⟩
  go_wp2_with fail
  simp [bodyPost, results, Yba.results27]
end
end Go.Proofs.Ybulkdkqw.lawS5586AWhole
