import Derived.Test.YbulkdkqwQCarB
namespace Go.Proofs.Ybulkdkqw.lawS5586AWhole
open Go.ChangeShapes Go.WideShapes Go.ChangeAt Go.RowKit

def EE : Enc Env := ⟨6, fun e => [.int .u64 e.origin, .int .u64 e.interim, .int .u64 e.seq, .map none, .map none, .slice none 0 0], fun _ => rfl, fun _ u hu => by simp at hu; rcases hu with rfl | rfl | rfl | rfl | rfl <;> rfl⟩
def EM : Enc Msg := ⟨1, fun g => [.slice g.mo g.ml g.mc], fun _ => rfl, fun _ u hu => by simp at hu; subst hu; rfl⟩

/-- What the envelopes leave. -/
def runS (ps : List Peer) (unm ids : List Int) (sf : Int) (up : Int → Int) (SS : Nat → Int → List KM) (xs : List (Env × Msg)) : Nat → Int → List KM := xs.foldl (stepS ps unm ids sf up) SS
def runG (ps : List Peer) (ids : List Int) (sf : Int) (xs : List (Env × Msg)) : List (Msg × List Int) := xs.foldl (stepG ps ids sf) []

theorem runG_len (ps : List Peer) (ids : List Int) (sf : Int) : ∀ (k : Nat) (xs : List (Env × Msg)), xs.length ≤ k → (runG ps ids sf xs).length ≤ k := by
  have key : ∀ (xs : List (Env × Msg)) (G : List (Msg × List Int)), (xs.foldl (stepG ps ids sf) G).length ≤ G.length + xs.length := by
    intro xs
    induction xs with
    | nil => intro G; simp
    | cons x xs ih =>
      intro G
      rw [List.foldl_cons]
      have h1 := ih (stepG ps ids sf G x)
      have h2 : (stepG ps ids sf G x).length ≤ G.length + 1 := by
        unfold stepG
        split
        · omega
        · split
          · omega
          · split <;> simp
      simp only [List.length_cons]
      omega
  intro k xs h
  have := key xs []
  unfold runG
  simp at this
  omega

theorem wp_then {c : Code} {Q : Exit → Act → World → Prop} {a : Act} {w : World} (h : Code.wp Yba.prog c (Exit.then (Q .normal) Q) a w) : Code.wp Yba.prog c Q a w := by
  have : Exit.then (Q .normal) Q = Q := by
    funext e
    cases e <;> rfl
  rwa [this] at h

theorem stepS_U {ps : List Peer} {unm ids : List Int} {sf : Int} {up : Int → Int} {SS : Nat → Int → List KM} {x : Env × Msg} (h : ∀ a, ¬ U a → SS 0 a = []) (hx : U x.1.name) : ∀ a, ¬ U a → stepS ps unm ids sf up SS x 0 a = [] := by
  intro a ha
  have hs : ∀ o v, set2 SS o x.1.name v 0 a = [] := fun o v => by
    unfold set2
    rw [if_neg (by rintro ⟨_, rfl⟩; exact ha hx)]
    exact h a ha
  unfold stepS
  split
  · split
    · exact hs _ _
    · exact h a ha
  · cases ps.find? (fun p => p.id == x.1.origin) with
    | none => exact h a ha
    | some p =>
      simp only
      split
      · exact hs _ _
      · exact h a ha

/-- arrived, of any message that is not mine. -/
theorem arr_any {w : World} {B Rb : Nat} {sf : Int} {vids : Value} {ids : List Int} {pm um nm mk : Nat} {ps : List Peer} {unm : List Int} {ucnt : Nat} {no : Nat} {KB : Nat → Nat} {FF : Nat → Int → Value} {SS : Nat → Int → List KM} {NN : Nat → Nat} {m : Nat}
    (hRt : Rt w B Rb sf vids ids pm um nm mk ps unm ucnt) (hSep : Sep w Rb pm um nm ps no KB) (hKa : KeptAll w B no KB FF SS NN m) (hkb : KBs ps mk no KB) (hB : B ≤ w.heap.size) (hm : m < 90000) (e : Env) (g : Msg) (hu : U e.origin) (hi : U e.interim) (hus : ∀ a ∈ unm, U a) (hl : ids.length ≤ 2000) (hne : ¬ e.origin = sf) (up : Int → Int) (G : List (Msg × List Int)) :
    ∃ now : List Int, now.length ≤ 2000 ∧ stepG ps ids sf G (e, g) = (if 0 < now.length then G ++ [(g, now)] else G) ∧ Calls Yba.prog 31 #[.pointer (some ⟨Rb, 0, none⟩), e.val, .slice g.mo g.ml g.mc, .int .u64 sf] w fun r w' => ArrP B no KB w now (stepS ps unm ids sf up SS (e, g)) m r w' := by
  cases hp : ps.find? (fun q => q.id == e.origin) with
  | none =>
    refine ⟨[], by simp, ?_, ?_⟩
    · unfold stepG; simp [hne, hp]
    · have : stepS ps unm ids sf up SS (e, g) = SS := by unfold stepS; simp [hne, hp]
      rw [this]
      exact arrived_none hRt hKa e g.mo g.ml g.mc hu hp
  | some p =>
    obtain ⟨ho, hk⟩ := hkb.at hp
    have hlen : (nowF ps ids sf p (ids.filter (lackId ps e.name e.seq sf))).length ≤ 2000 := by
      have := List.length_filter_le (lackId ps e.name e.seq sf) ids
      unfold nowF
      split
      · split
        · omega
        · simp
      · omega
    refine ⟨nowF ps ids sf p (ids.filter (lackId ps e.name e.seq sf)), hlen, ?_, ?_⟩
    · unfold stepG; simp only [hp]; rw [if_neg hne]
    · exact arrived_some hRt hSep hKa hB hm e g.mo g.ml g.mc hu hi hus hl hp ho hk _ rfl _ (by unfold stepS; simp only [hp]; rw [if_neg hne]; rfl)

theorem zero22' (w : World) : (zeroValue 22).run Yba.prog w = .ok (.int .u64 0) w := zero22 w

set_option linter.unusedVariables false in
set_option maxRecDepth 1000000 in
set_option maxHeartbeats 4000000 in
/-- keepCarried. -/
theorem car_any (w0 : World) (B Rb : Nat) (sf : Int) (vids : Value) (ids : List Int) (pm um nm mk : Nat) (ps : List Peer) (unm : List Int) (ucnt : Nat) (no : Nat) (KB : Nat → Nat) (FF : Nat → Int → Value) (SS : Nat → Int → List KM) (NN : Nat → Nat) (m : Nat)
    (ub un : Nat) (uo : Int → Option Int) (xs : List (Env × Msg)) (cb mb ccap mcap : Nat) (cc cm : Array Value)
    (hRt : Rt w0 B Rb sf vids ids pm um nm mk ps unm ucnt) (hSep : Sep w0 Rb pm um nm ps no KB) (hkb : KBs ps mk no KB) (hus : ∀ a ∈ unm, U a) (hl : ids.length ≤ 2000)
    (hKa : KeptAll w0 B no KB FF SS NN m) (hm : m + xs.length < 80000) (hU : ∀ a, ¬ U a → SS 0 a = []) (hB : B ≤ w0.heap.size) (hxl : xs.length ≤ 2000)
    (hub : MapF w0 ub (fun a => (uo a).map (fun v => .int .u64 v)) un) (hubk : ∀ o, o < no → ub ≠ KB o)
    (hcb : w0.heap[cb]? = some (.cells cc 56 (0, 0))) (hce : ∀ (i : Nat) x, xs[i]? = some x → ∀ (j : Nat) u, (EE.cs x.1)[j]? = some u → w0.cell? ⟨cb, i * 6 + j, none⟩ = some u)
    (hmb : w0.heap[mb]? = some (.cells cm 54 (0, 0))) (hme : ∀ (i : Nat) x, xs[i]? = some x → w0.cell? ⟨mb, i, none⟩ = some (.slice x.2.mo x.2.ml x.2.mc))
    (hxu : ∀ x ∈ xs, U x.1.origin ∧ U x.1.interim) (SS' : Nat → Int → List KM) (hSS : SS' = setl ps unm ids sf (runS ps unm ids sf (fun a => (uo a).getD 0) SS xs) (fun a => decide (runS ps unm ids sf (fun a => (uo a).getD 0) SS xs 0 a ≠ []))) :
    Calls Yba.prog 7 #[.pointer (some ⟨Rb, 0, none⟩), .map (some ub), .slice (some ⟨cb, 0, none⟩) xs.length ccap, .slice (some ⟨mb, 0, none⟩) xs.length mcap] w0 fun e w' => CarP w0 no KB SS' (runG ps ids sf xs) (m + xs.length) e w' := by
  have HRt : Hid (Rt w0 B Rb sf vids ids pm um nm mk ps unm ucnt) := hRt
  have HSep : Hid (Sep w0 Rb pm um nm ps no KB) := hSep
  have HUs : Hid (∀ a ∈ unm, U a) := hus
  have HKb : Hid (KBs ps mk no KB) := hkb
  have HKa : Hid (KeptAll w0 B no KB FF SS NN m) := hKa
  have HUb : Hid (MapF w0 ub (fun a => (uo a).map (fun v => .int .u64 v)) un ∧ ∀ o, o < no → ub ≠ KB o) := ⟨hub, hubk⟩
  have HCb : Hid (w0.heap[cb]? = some (.cells cc 56 (0, 0))) := hcb
  have HMb : Hid (w0.heap[mb]? = some (.cells cm 54 (0, 0))) := hmb
  have HCe : Hid (∀ (i : Nat) x, xs[i]? = some x → ∀ (j : Nat) u, (EE.cs x.1)[j]? = some u → w0.cell? ⟨cb, i * 6 + j, none⟩ = some u) := hce
  have HMe : Hid (∀ (i : Nat) x, xs[i]? = some x → w0.cell? ⟨mb, i, none⟩ = some (.slice x.2.mo x.2.ml x.2.mc)) := hme
  have HXu : Hid (∀ x ∈ xs, U x.1.origin ∧ U x.1.interim) := hxu
  have HU : Hid (∀ a, ¬ U a → SS 0 a = []) := hU
  have HSS : Hid (SS' = setl ps unm ids sf (runS ps unm ids sf (fun a => (uo a).getD 0) SS xs) (fun a => decide (runS ps unm ids sf (fun a => (uo a).getD 0) SS xs 0 a ≠ []))) := hSS
  have hcl : cb < w0.heap.size := (Array.getElem?_eq_some_iff.1 hcb).1
  have hml : mb < w0.heap.size := (Array.getElem?_eq_some_iff.1 hmb).1
  clear hRt hSep hus hkb hKa hub hubk hcb hmb hce hme hxu hU hSS
  go_enter Yba.func7, Yba.ntmps7
  refine wp_seq_k ?_
  intro K hK
  have HK := show Hid _ from hK
  clear hK
  go_wp2_with fail
  refine HK.out _ _ ?_
  clear HK K
  refine wp_seq_k ?_
  intro K hK
  have HK := show Hid _ from hK
  clear hK
  go_wp2_with fail
  refine HK.out _ _ ?_
  clear HK K
  refine wp_seq_k ?_
  intro K hK
  have HK := show Hid _ from hK
  clear hK
  go_wp2_with fail
  go_loopw [9, 17] (fun v i wr => ∃ k : Nat, k ≤ xs.length ∧ i = .int .i64 k ∧ KOnly no KB w0 wr ∧ (∃ FF NN, KeptAll wr B no KB FF (runS ps unm ids sf (fun a => (uo a).getD 0) SS (xs.take k)) NN (m + k)) ∧ Got wr w0.heap.size v (runG ps ids sf (xs.take k)) ∧ ∀ a, ¬ U a → runS ps unm ids sf (fun a => (uo a).getD 0) SS (xs.take k) 0 a = []) (fun _ i _ => xs.length - (intOf i).toNat)
  case atStart => exact ⟨0, Nat.zero_le _, rfl, KOnly.refl _, ⟨FF, NN, HKa.out⟩, Got.nil _ _, HU.out⟩
  case round =>
    obtain ⟨k, hk, rfl, hko, ⟨FFk, NNk, hka⟩, hG, hUk⟩ := hrel
    have HKo : Hid (KOnly no KB w0 wr) := hko
    have HG : Hid (Got wr w0.heap.size u9 (runG ps ids sf (xs.take k))) := hG
    have HUk : Hid (∀ a, ¬ U a → runS ps unm ids sf (fun a => (uo a).getD 0) SS (xs.take k) 0 a = []) := hUk
    by_cases hlt : k < xs.length
    · obtain ⟨x, hx⟩ : ∃ x, xs[k]? = some x := ⟨_, List.getElem?_eq_getElem hlt⟩
      obtain ⟨⟨eo, ei, es⟩, ⟨mo, ml, mc⟩⟩ := x
      have hcell : ∀ (j : Nat) u, (EE.cs ⟨eo, ei, es⟩)[j]? = some u → wr.cell? ⟨cb, k * 6 + j, none⟩ = some u := fun j u hu => (hko.cell hcl (cells_ne HCb.out (by decide)) (HSep.out.ne HCb.out)).trans (HCe.out k _ hx j u hu)
      have d0 := hcell 0 _ rfl
      have d1 := hcell 1 _ rfl
      have d2 := hcell 2 _ rfl
      have d3 := hcell 3 _ rfl
      have d4 := hcell 4 _ rfl
      have d5 := hcell 5 _ rfl
      simp only [Nat.add_zero] at d0
      have hmm : wr.cell? ⟨mb, k, none⟩ = some (.slice mo ml mc) := (hko.cell hml (cells_ne HMb.out (by decide)) (HSep.out.ne HMb.out)).trans (HMe.out k _ hx)
      obtain ⟨huo, hui⟩ := HXu.out _ (List.mem_of_getElem? hx)
      have HA : Hid (xs[k]? = some (⟨eo, ei, es⟩, ⟨mo, ml, mc⟩) ∧ k < xs.length) := ⟨hx, hlt⟩
      have i1 : (k : Int) < (xs.length : Int) := by omega
      have HKk : Hid (KeptAll wr B no KB FFk (runS ps unm ids sf (fun a => (uo a).getD 0) SS (xs.take k)) NNk (m + k)) := hka
      clear hko hcell hG hka hUk hx hlt
      have hstep : runS ps unm ids sf (fun a => (uo a).getD 0) SS (xs.take (k + 1)) = stepS ps unm ids sf (fun a => (uo a).getD 0) (runS ps unm ids sf (fun a => (uo a).getD 0) SS (xs.take k)) (⟨eo, ei, es⟩, ⟨mo, ml, mc⟩) := by
        unfold runS
        rw [List.take_add_one, HA.out.1, List.foldl_append]
        rfl
      have hstepG : runG ps ids sf (xs.take (k + 1)) = stepG ps ids sf (runG ps ids sf (xs.take k)) (⟨eo, ei, es⟩, ⟨mo, ml, mc⟩) := by
        unfold runG
        rw [List.take_add_one, HA.out.1, List.foldl_append]
        rfl
      have hGl : (runG ps ids sf (xs.take k)).length ≤ k := runG_len _ _ _ _ _ (by simp; omega)
      have hser : ∀ w, Calls Yba.prog 29 #[.agg #[.int .u64 eo, .int .u64 ei, .int .u64 es, .map none, .map none, .slice none 0 0]] w fun r w' => r = .returned (.int .u64 (Env.name ⟨eo, ei, es⟩)) ∧ Below w.heap.size w w' := fun w => series_any ⟨eo, ei, es⟩ w
      have hun : U (Env.name ⟨eo, ei, es⟩) := by unfold Env.name; split <;> assumption
      have HUn : Hid (Env.name ⟨eo, ei, es⟩ = if ei = 0 then eo else ei) := rfl
      generalize hSSn : runS ps unm ids sf (fun a => (uo a).getD 0) SS (xs.take (k + 1)) = SSn at hstep
      generalize hGn : runG ps ids sf (xs.take (k + 1)) = Gn at hstepG
      generalize hSSk : runS ps unm ids sf (fun a => (uo a).getD 0) SS (xs.take k) = SSk at hstep HKk HUk
      generalize hGk : runG ps ids sf (xs.take k) = Gk at hstepG HG hGl
      have HSn : Hid (runS ps unm ids sf (fun a => (uo a).getD 0) SS (xs.take (k + 1)) = SSn ∧ runG ps ids sf (xs.take (k + 1)) = Gn) := ⟨hSSn, hGn⟩
      have HSt : Hid (SSn = stepS ps unm ids sf (fun a => (uo a).getD 0) SSk (⟨eo, ei, es⟩, ⟨mo, ml, mc⟩)) := hstep
      have HStG : Hid (Gn = stepG ps ids sf Gk (⟨eo, ei, es⟩, ⟨mo, ml, mc⟩)) := hstepG
      have HSer : Hid (∀ w, Calls Yba.prog 29 #[.agg #[.int .u64 eo, .int .u64 ei, .int .u64 es, .map none, .map none, .slice none 0 0]] w fun r w' => r = .returned (.int .u64 (Env.name ⟨eo, ei, es⟩)) ∧ Below w.heap.size w w') := hser
      clear hstep hstepG hSSn hGn hSSk hGk hser
      go_wp2_with fail
      refine (HSer.out _).mono ?_
      clear d0 d1 d2 d3 d4 d5 hmm
      rintro e w2 ⟨rfl, hb2⟩
      have hblk : w2.heap[wr.heap.size]? = some (.cells #[.int .u64 eo, .int .u64 ei, .int .u64 es, .map none, .map none, .slice none 0 0] 56 (0, 0)) := (hb2.block _ (by simp)).trans (Deep.blk_alloc_new _ _)
      have hb3 : Below wr.heap.size wr w2 := (nb (Below.refl _ _) (Nat.le_refl _) _).trans (hb2.mono (by simp))
      clear hb2
      have HBk : Hid (∀ q, (w2.drewN q).heap[wr.heap.size]? = some (.cells #[.int .u64 eo, .int .u64 ei, .int .u64 es, .map none, .map none, .slice none 0 0] 56 (0, 0))) := fun _ => hblk
      have HB2 : Hid (Below wr.heap.size wr w2) := hb3
      have x0 : w2.cell? ⟨wr.heap.size, 0, none⟩ = some (.int .u64 eo) := by simp [World.cell?, hblk]
      have x2 : w2.cell? ⟨wr.heap.size, 2, none⟩ = some (.int .u64 es) := by simp [World.cell?, hblk]
      have hko2 : KOnly no KB w0 w2 := HKo.out.trans (KOnly.of_below hb3)
      have HKo2 : Hid (∀ q, KOnly no KB w0 (w2.drewN q)) := fun q => hko2.trans (KOnly.of_below (below_drewN (Below.refl _ _) q))
      have HKa2 : Hid (∀ q, KeptAll (w2.drewN q) B no KB FFk SSk NNk (m + k)) := fun q => (HKk.out.later hb3).later (below_drewN (Below.refl _ _) q)
      have HG2 : Hid (∀ q, Got (w2.drewN q) w0.heap.size u9 Gk) := fun q => (HG.out.later hb3).later (below_drewN (Below.refl _ _) q)
      have c3 := (HRt.out.konly HSep.out hko2).c3
      have hlk : ∀ q, (Instr.lookup 29 (.map (some ub)) (.int .u64 (Env.name ⟨eo, ei, es⟩)) false).run Yba.prog (w2.drewN q) = .ok (.int .u64 ((uo (Env.name ⟨eo, ei, es⟩)).getD 0)) (w2.drewN q) := fun q => by
        have hub2 := HUb.out.1.of_block (w' := w2.drewN q) ((HKo2.out q).block _ HUb.out.1.lt (mapF_ne HUb.out.1) HUb.out.2)
        have := hub2.look Yba.underlying29 (zero22 _) hun
        rw [this]
        cases uo (Env.name ⟨eo, ei, es⟩) <;> rfl
      have hmm : ∀ q, (w2.drewN q).cell? ⟨mb, k, none⟩ = some (.slice mo ml mc) := fun q => ((HKo2.out q).cell hml (cells_ne HMb.out (by decide)) (HSep.out.ne HMb.out)).trans (HMe.out k _ HA.out.1)
      have HMm : Hid (∀ q, (w2.drewN q).cell? ⟨mb, k, none⟩ = some (.slice mo ml mc)) := hmm
      clear hblk hb3 hko2 hmm
      have h0 : 0 < no := by rw [HKb.out.no]; omega
      by_cases ho : eo = sf
      · have hob : (eo == sf) = true := by simpa using ho
        have HO : Hid (eo = sf) := ho
        have hGe : Hid (Gn = Gk) := by
          show Gn = Gk
          rw [HStG.out]; unfold stepG; rw [if_pos ho]
        clear ho
        by_cases hle : es ≤ (uo (Env.name ⟨eo, ei, es⟩)).getD 0
        · have hleb : decide (es ≤ (uo (Env.name ⟨eo, ei, es⟩)).getD 0) = true := decide_eq_true hle
          have HSe : Hid (SSn = set2 SSk 0 (Env.name ⟨eo, ei, es⟩) (ins (SSk 0 (Env.name ⟨eo, ei, es⟩)) ⟨es, mo, ml, mc, sf⟩)) := by
            show SSn = _
            rw [HSt.out]; unfold stepS; rw [if_pos HO.out, if_pos hle]; rfl
          clear hle
          go_wp2_with fail
          go_quiet (fail)
          go_wp2_with fail
          generalize hq : w2.drewN _ = wq
          have hKo := HKo2.out
          have hRtq : Rt wq B Rb sf vids ids pm um nm mk ps unm ucnt := by subst hq; exact HRt.out.konly HSep.out (HKo2.out _)
          have hKaq : KeptAll wq B no KB FFk SSk NNk (m + k) := by subst hq; exact HKa2.out _
          have hKoq : KOnly no KB w0 wq := by subst hq; exact HKo2.out _
          have hGq : Got wq w0.heap.size u9 Gk := by subst hq; exact HG2.out _
          have hbq : wq.heap[wr.heap.size]? = some (.cells #[.int .u64 eo, .int .u64 ei, .int .u64 es, .map none, .map none, .slice none 0 0] 56 (0, 0)) := by subst hq; exact HBk.out _
          have hmq : wq.cell? ⟨mb, k, none⟩ = some (.slice mo ml mc) := by subst hq; exact HMm.out _
          have hSepq := HSep.out.konly hKoq hKaq.maps
          refine wp_then ?_
          refine car7 wq B Rb sf vids ids pm um nm mk ps unm ucnt no KB FFk SSk NNk (m + k) 0 wr.heap.size mb xs.length mcap k _ cm (Env.name ⟨eo, ei, es⟩) es mo ml mc hRtq hSepq hKaq (Nat.le_trans hB hKoq.size) (by omega) h0 HKb.out.mine hun hbq (by simp [World.cell?, hbq]) ((hKoq.block mb hml (cells_ne HMb.out (by decide)) (HSep.out.ne HMb.out)).trans HMb.out) hmq i1 _ _ ?_ _ rfl
          intro u w3 FF3 NN3 hka3 hko3
          have HKa3 : Hid (∃ FF NN, KeptAll w3 B no KB FF SSn NN (m + (k + 1))) := ⟨FF3, NN3, by rw [HSe.out]; exact hka3⟩
          have HKo3 : Hid (KOnly no KB w0 w3) := hKoq.trans hko3
          have HG3 : Hid (Got w3 w0.heap.size u9 Gn) := by show Got w3 w0.heap.size u9 Gn; rw [hGe.out]; exact hGq.konly hSepq hko3
          have HU3 : Hid (∀ a, ¬ U a → SSn 0 a = []) := fun a ha => by
            rw [HSe.out]
            unfold set2
            rw [if_neg (by rintro ⟨_, rfl⟩; exact ha hun)]
            exact HUk.out a ha
          clear hka3 hko3 hRtq hKaq hKoq hGq hbq hmq hSepq hKo hq x0 x2 c3 hlk hleb
          simp only [fr7]
          go_wp2_with fail
          go_roundw
          case rel =>
            refine ⟨k + 1, by have := HA.out.2; omega, by go_num, HKo3.out, ?_, ?_, ?_⟩
            · rw [HSn.out.1]; exact HKa3.out
            · rw [HSn.out.2]; exact HG3.out
            · rw [HSn.out.1]; exact HU3.out
          case measure => have := HA.out.2; simp [intOf]; omega
        · have hleb : decide (es ≤ (uo (Env.name ⟨eo, ei, es⟩)).getD 0) = false := decide_eq_false hle
          have HSe : Hid (SSn = SSk) := by
            show SSn = _
            rw [HSt.out]; unfold stepS; rw [if_pos HO.out, if_neg hle]
          clear hle
          have hnb : (eo != sf) = false := by simpa using hob
          go_wp2_with fail
          go_quiet (fail)
          refine ‹∀ (a : Act) (w : World), Code.wp Yba.prog (Code.cond _ _ _) _ a w → _› _ _ ?_
          refine wp_cond (t := false) rfl ?_
          simp only [Bool.false_eq_true, if_false]
          generalize hq : w2.drewN _ = wq
          have HKa3 : Hid (∃ FF NN, KeptAll wq B no KB FF SSn NN (m + (k + 1))) := by subst hq; exact ⟨FFk, NNk, by rw [HSe.out]; exact (HKa2.out _).up⟩
          have HKo3 : Hid (KOnly no KB w0 wq) := by subst hq; exact HKo2.out _
          have HG3 : Hid (Got wq w0.heap.size u9 Gn) := by show Got wq w0.heap.size u9 Gn; rw [hGe.out]; subst hq; exact HG2.out _
          have x0 : wq.cell? ⟨wr.heap.size, 0, none⟩ = some (.int .u64 eo) := by subst hq; exact x0
          have c3 : wq.cell? ⟨Rb, 3, none⟩ = some (.int .u64 sf) := by subst hq; exact c3
          clear hq
          refine wp_seq_k ?_
          intro K hK
          have HK := show Hid _ from hK
          clear hK
          go_quiet (fail)
          refine HK.out _ _ ?_
          go_wp2_with fail
          generalize hq : wq.drewN _ = wz
          have HKa3 : Hid (∃ FF NN, KeptAll wz B no KB FF SSn NN (m + (k + 1))) := by
            obtain ⟨a, b, h⟩ := HKa3.out
            subst hq
            exact ⟨a, b, h.later (below_drewN (Below.refl _ _) _)⟩
          have HKo3 : Hid (KOnly no KB w0 wz) := by subst hq; exact HKo3.out.trans (KOnly.of_below (below_drewN (Below.refl _ _) _))
          have HG3 : Hid (Got wz w0.heap.size u9 Gn) := by subst hq; exact HG3.out.later (below_drewN (Below.refl _ _) _)
          have HU3 : Hid (∀ a, ¬ U a → SSn 0 a = []) := by
            show ∀ a, ¬ U a → SSn 0 a = []
            rw [HSe.out]; exact HUk.out
          go_roundw
          case rel =>
            refine ⟨k + 1, by have := HA.out.2; omega, by go_num, HKo3.out, ?_, ?_, ?_⟩
            · rw [HSn.out.1]; exact HKa3.out
            · rw [HSn.out.2]; exact HG3.out
            · rw [HSn.out.1]; exact HU3.out
          case measure => have := HA.out.2; simp [intOf]; omega
      · have hob : (eo == sf) = false := by simpa using ho
        have hnb : (eo != sf) = true := by simpa using ho
        have HO : Hid (¬ eo = sf) := ho
        clear ho
        go_wp2_with fail
        go_quiet (fail)
        refine ‹∀ (a : Act) (w : World), Code.wp Yba.prog (Code.cond _ _ _) _ a w → _› _ _ ?_
        refine wp_cond (t := false) rfl ?_
        simp only [Bool.false_eq_true, if_false]
        generalize hq : w2.drewN _ = wq
        have x0 : wq.cell? ⟨wr.heap.size, 0, none⟩ = some (.int .u64 eo) := by subst hq; exact x0
        have c3 : wq.cell? ⟨Rb, 3, none⟩ = some (.int .u64 sf) := by subst hq; exact c3
        have HKa3 : Hid (∀ q, KeptAll (wq.drewN q) B no KB FFk SSk NNk (m + k)) := by subst hq; exact fun q => (HKa2.out _).later (below_drewN (Below.refl _ _) _)
        have HKo3 : Hid (∀ q, KOnly no KB w0 (wq.drewN q)) := by subst hq; exact fun q => (HKo2.out _).trans (KOnly.of_below (below_drewN (Below.refl _ _) _))
        have HG3 : Hid (∀ q, Got (wq.drewN q) w0.heap.size u9 Gk) := by subst hq; exact fun q => (HG2.out _).later (below_drewN (Below.refl _ _) _)
        have HBk3 : Hid (∀ q, (wq.drewN q).heap[wr.heap.size]? = some (.cells #[.int .u64 eo, .int .u64 ei, .int .u64 es, .map none, .map none, .slice none 0 0] 56 (0, 0))) := by subst hq; exact fun q => HBk.out 0
        have HMm3 : Hid (∀ q, (wq.drewN q).cell? ⟨mb, k, none⟩ = some (.slice mo ml mc)) := by subst hq; exact fun q => HMm.out 0
        clear hq
        refine wp_seq_k ?_
        intro K hK
        have HK := show Hid _ from hK
        clear hK
        go_quiet (fail)
        refine HK.out _ _ ?_
        refine wp_cond (t := true) rfl ?_
        simp only [if_true]
        generalize hq : wq.drewN _ = wz
        have hKaz : KeptAll (wz.drewN 1) B no KB FFk SSk NNk (m + k) := by subst hq; exact (HKa3.out _).later (below_drewN (Below.refl _ _) _)
        have hKoz : KOnly no KB w0 (wz.drewN 1) := by subst hq; exact (HKo3.out _).trans (KOnly.of_below (below_drewN (Below.refl _ _) _))
        have hGz : Got (wz.drewN 1) w0.heap.size u9 Gk := by subst hq; exact (HG3.out _).later (below_drewN (Below.refl _ _) _)
        have hbz : wz.drew.heap[wr.heap.size]? = some (.cells #[.int .u64 eo, .int .u64 ei, .int .u64 es, .map none, .map none, .slice none 0 0] 56 (0, 0)) := by subst hq; exact HBk3.out 0
        have hmz : wz.drew.cell? ⟨mb, k, none⟩ = some (.slice mo ml mc) := by subst hq; exact HMm3.out 0
        have hMz : Hid (wz.heap[mb]? = some (.cells cm 54 (0, 0))) := (hKoz.block mb hml (cells_ne HMb.out (by decide)) (HSep.out.ne HMb.out)).trans HMb.out
        have HMz : Hid (wz.cell? ⟨mb, k, none⟩ = some (.slice mo ml mc)) := hmz
        clear hq x0 c3 x2 hlk
        have x0 : wz.drew.cell? ⟨wr.heap.size, 0, none⟩ = some (.int .u64 eo) := by simp [World.cell?, hbz]
        have x1 : wz.drew.cell? ⟨wr.heap.size, 1, none⟩ = some (.int .u64 ei) := by simp [World.cell?, hbz]
        have x2 : wz.drew.cell? ⟨wr.heap.size, 2, none⟩ = some (.int .u64 es) := by simp [World.cell?, hbz]
        have x3 : wz.drew.cell? ⟨wr.heap.size, 3, none⟩ = some (.map none) := by simp [World.cell?, hbz]
        have x4 : wz.drew.cell? ⟨wr.heap.size, 4, none⟩ = some (.map none) := by simp [World.cell?, hbz]
        have x5 : wz.drew.cell? ⟨wr.heap.size, 5, none⟩ = some (.slice none 0 0) := by simp [World.cell?, hbz]
        have hRtz := HRt.out.konly HSep.out hKoz
        have c3 : wz.drew.cell? ⟨Rb, 3, none⟩ = some (.int .u64 sf) := hRtz.c3
        have hSepz := HSep.out.konly hKoz hKaz.maps
        obtain ⟨now, hnow, hGe, hcall⟩ := arr_any hRtz hSepz hKaz HKb.out (Nat.le_trans hB hKoz.size) (by omega) ⟨eo, ei, es⟩ ⟨mo, ml, mc⟩ huo hui HUs.out hl HO.out (fun a => (uo a).getD 0) Gk
        simp only [Env.val] at hcall
        rw [← HStG.out] at hGe
        rw [← HSt.out] at hcall
        have HCall : Hid (Calls Yba.prog 31 #[.pointer (some ⟨Rb, 0, none⟩), .agg #[.int .u64 eo, .int .u64 ei, .int .u64 es, .map none, .map none, .slice none 0 0], .slice mo ml mc, .int .u64 sf] wz.drew fun r w' => ArrP B no KB wz.drew now SSn (m + k) r w') := hcall
        have HGe : Hid (Gn = if 0 < now.length then Gk ++ [(⟨mo, ml, mc⟩, now)] else Gk) := hGe
        have HGz : Hid (Got wz.drew w0.heap.size u9 Gk) := hGz
        have HKoz : Hid (KOnly no KB w0 wz.drew) := hKoz
        have HSepz : Hid (Sep wz.drew Rb pm um nm ps no KB) := hSepz
        have HU3 : Hid (∀ a, ¬ U a → SSn 0 a = []) := by
          show ∀ a, ¬ U a → SSn 0 a = []
          rw [HSt.out]
          exact stepS_U HUk.out hun
        clear hKaz hbz hRtz hSepz hcall hGe hGz hKoz
        refine wp_seq_k ?_
        intro KR hKR
        have HKR := show Hid _ from hKR
        clear hKR
        refine region_tail2 10 (by kernel_rfl) ?_
        intro KK hKK
        simp only [List.take_succ_cons, List.take_zero]
        repeat (refine wpStill_want rfl (fun K hK => ?_); go_simp; refine hK _ ?_; clear hK K)
        refine wpStill_nil ?_
        refine hKK _ ?_
        clear hKK KK
        simp only [List.drop_succ_cons, List.drop_zero]
        refine wpList_want rfl (fun K hK => ?_)
        go_simp
        refine HCall.out.mono ?_
        rintro r wy ⟨vn, FF3, NN3, rfl, hs, hka3, hko3⟩
        refine hK _ _ ?_
        clear hK K
        have HKo4 : Hid (KOnly no KB w0 wy) := HKoz.out.trans hko3
        have HG4 : Hid (Got wy w0.heap.size u9 Gk) := HGz.out.konly HSepz.out hko3
        have HKa4 : Hid (KeptAll wy B no KB FF3 SSn NN3 (m + k + 1)) := hka3
        have HS4 : Hid (Sl E64 22 wy w0.heap.size vn now) := hs.mono HKoz.out.size
        have hmy : wy.cell? ⟨mb, k, none⟩ = some (.slice mo ml mc) := (hko3.cell (p := ⟨mb, k, none⟩) (World.block_lt_of_cell? wz.drew _ HMz.out) (cells_ne (w := wz.drew) hMz.out (by decide)) (HSepz.out.ne (c := cm) hMz.out)).trans HMz.out
        obtain ⟨na, nc, rfl, _⟩ := hs.open
        clear hs hka3 hko3 HCall x0 x1 x2 x3 x4 x5 c3 hmz
        go_wp2_with fail
        refine HKR.out _ _ ?_
        by_cases hpos : 0 < now.length
        · have hposb : decide ((now.length : Int) > 0) = true := by simp; omega
          have hlt2 : Gk.length < 100000 := by omega
          obtain ⟨v', w5, hrun, hG5, hg5, hown, ht66⟩ := HG4.out.push HKo4.out.size hlt2 ⟨mo, ml, mc⟩ HS4.out
          have HKa5 : Hid (∃ FF NN, KeptAll w5 B no KB FF SSn NN (m + (k + 1))) := ⟨FF3, NN3, HKa4.out.tonly (by decide) ht66⟩
          have HKo5 : Hid (KOnly no KB w0 w5) := HKo4.out.push hg5 hown
          have HG5 : Hid (Got w5 w0.heap.size v' Gn) := by
            show Got w5 w0.heap.size v' Gn
            rw [HGe.out, if_pos hpos]
            exact hG5
          clear hG5 hg5 hown ht66
          go_wp2_with (at_builtin; refine wpList_append_run 46 hrun rfl _ _ rfl rfl rfl rfl ?_)
          go_roundw
          case rel =>
            refine ⟨k + 1, by have := HA.out.2; omega, by go_num, HKo5.out, ?_, ?_, ?_⟩
            · rw [HSn.out.1]; exact HKa5.out
            · rw [HSn.out.2]; exact HG5.out
            · rw [HSn.out.1]; exact HU3.out
          case measure => have := HA.out.2; simp [intOf]; omega
        · have hposb : decide ((now.length : Int) > 0) = false := decide_eq_false (by omega)
          have HKa5 : Hid (∃ FF NN, KeptAll wy B no KB FF SSn NN (m + (k + 1))) := ⟨FF3, NN3, HKa4.out⟩
          have HKo5 : Hid (KOnly no KB w0 wy) := HKo4.out
          have HG5 : Hid (Got wy w0.heap.size u9 Gn) := by
            show Got wy w0.heap.size u9 Gn
            rw [HGe.out, if_neg hpos]
            exact HG4.out
          go_wp2_with fail
          go_roundw
          case rel =>
            refine ⟨k + 1, by have := HA.out.2; omega, by go_num, HKo5.out, ?_, ?_, ?_⟩
            · rw [HSn.out.1]; exact HKa5.out
            · rw [HSn.out.2]; exact HG5.out
            · rw [HSn.out.1]; exact HU3.out
          case measure => have := HA.out.2; simp [intOf]; omega
    · have hkn : k = xs.length := by omega
      subst hkn
      clear hlt
      go_wp2_with fail
      refine HK.out _ _ ?_
      simp only [List.take_length] at hka hUk
      have hG' := HG.out
      simp only [List.take_length] at hG'
      exact carB w0 wr B Rb sf vids ids pm um nm mk ps unm ucnt no KB FFk _ NNk (m + xs.length) u9 (runG ps ids sf xs) HRt.out HSep.out HKb.out HUs.out hl HKo.out hka (by omega) hUk hG' SS' HSS.out _ rfl
end Go.Proofs.Ybulkdkqw.lawS5586AWhole
