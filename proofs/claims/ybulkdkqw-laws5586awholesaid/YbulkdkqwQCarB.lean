import Derived.Test.YbulkdkqwQRel
namespace Go.Proofs.Ybulkdkqw.lawS5586AWhole
open Go.ChangeShapes Go.WideShapes Go.ChangeAt Go.RowKit

/-- Whose map settle turns at a name. -/
def tOf (ps : List Peer) (sf a : Int) : Option Nat := if a = sf then some 0 else if (ps.find? (fun p => p.id == a)).isSome = true then some (ownOf ps a) else none

/-- What is kept once the names of vis are settled. -/
def setl (ps : List Peer) (unm ids : List Int) (sf : Int) (SS : Nat → Int → List KM) (vis : Int → Bool) (o : Nat) (a : Int) : List KM := if vis a = true ∧ tOf ps sf a = some o then leftF ps unm ids a (SS o a) else SS o a

/-- The owners' maps: mine, then the peers'. -/
structure KBs (ps : List Peer) (mk no : Nat) (KB : Nat → Nat) : Prop where
  no : no = ps.length + 1
  mine : KB 0 = mk
  peer : ∀ i p, ps[i]? = some p → KB (i + 1) = p.kb

theorem find_at {ps : List Peer} {a : Int} {p : Peer} (h : ps.find? (fun q => q.id == a) = some p) : ps[ps.findIdx (fun q => q.id == a)]? = some p := by
  rw [List.find?_eq_some_iff_append] at h
  obtain ⟨h1, xs, ys, rfl, h2⟩ := h
  have : (xs ++ p :: ys).findIdx (fun q => q.id == a) = xs.length := by
    rw [List.findIdx_append]
    have hn : xs.findIdx (fun q => q.id == a) = xs.length := List.findIdx_eq_length.2 (fun x hx => by simpa using h2 x hx)
    rw [hn]
    simp [List.findIdx_cons, h1]
  rw [this]
  simp
theorem KBs.at {ps : List Peer} {mk no : Nat} {KB : Nat → Nat} (h : KBs ps mk no KB) {a : Int} {p : Peer} (hp : ps.find? (fun q => q.id == a) = some p) : ownOf ps a < no ∧ KB (ownOf ps a) = p.kb := by
  have := find_at hp
  refine ⟨?_, h.peer _ _ this⟩
  have hl := (List.getElem?_eq_some_iff.1 this).1
  rw [h.no]
  unfold ownOf
  omega

section
variable {w w' : World} {B Rb : Nat} {sf : Int} {vids : Value} {ids : List Int} {pm um nm mk : Nat} {ps : List Peer} {unm : List Int} {ucnt : Nat} {no : Nat} {KB : Nat → Nat} {FF : Nat → Int → Value} {SS : Nat → Int → List KM} {NN : Nat → Nat} {m : Nat}

theorem RangeF.iter {b r n cnt : Nat} {F : Int → Option Value} {left : Int → Bool} (h : RangeF w b r n F left cnt) : ∃ a c s d, w.heap[r]? = some (.mapIter a c s d) := by
  obtain ⟨D, L, ⟨es, clock, since, seen, c0, hb, F1, hs, hD, hr, rest⟩, h2⟩ := h
  exact ⟨_, _, _, _, hr⟩

/-- The range goes on behind settle. -/
theorem SettleP.range {o r n cnt : Nat} {name : Int} {L : List KM} {e : Ending} {F : Int → Option Value} {left : Int → Bool} (h : SettleP no KB FF SS m o name L w e w') (hKV : KV w no KB FF SS NN m) (hr : RangeF w (KB 0) r n F left cnt) (h0 : 0 < no) (ho : o < no) (hn : U name) (hl : left name = false) (hF : (F name).isSome = true) (hm : n ≤ m) (hm2 : m < 90000) :
    ∃ n' F' cnt', RangeF w' (KB 0) r n' F' left cnt' ∧ cnt' ≤ cnt ∧ n' ≤ m := by
  obtain ⟨_, _, _, hb | ⟨hne, w1, hg, hrun⟩⟩ := h
  · exact ⟨n, F, cnt, hr.later hb, Nat.le_refl _, hm⟩
  · obtain ⟨ia, ib, ic, id, hit⟩ := hr.iter
    have hrow := (hKV.row o name ho hne).own
    obtain ⟨g, hg1, hgl, cur, hgc⟩ := hrow
    have h1 : RangeF w1 (KB 0) r n F left cnt := hr.of_blocks (hg.block _ hr.mapF.lt (fun e => mapF_ne hr.mapF cur (by rw [hg1] at e; injection e with e; rw [e]; exact hgc))) (hg.block _ hr.lt (fun e => by rw [hg1] at e; injection e with e; rw [e, hgc] at hit; cases hit))
    have ht := hKV.turned ho hne hg
    by_cases e0 : o = 0
    · subst e0
      rcases hrun with ⟨v, hrun⟩ | ⟨ty, hrun⟩
      · obtain ⟨w2, hr2, h2, _⟩ := h1.store Yba.underlying34 (by unfold maxLen; omega) hn hF v
        rw [hr2] at hrun
        injection hrun with _ hrun
        subst hrun
        exact ⟨_, _, _, h2, Nat.le_refl _, hm⟩
      · obtain ⟨w2, c2, hr2, h2, hle, _⟩ := h1.drop Yba.underlying34 hn hl hF ty
        rw [hr2] at hrun
        injection hrun with _ hrun
        subst hrun
        exact ⟨_, _, _, h2, hle, by omega⟩
    · have hgw : w1.grownBy w' (some (KB o)) := by
        rcases hrun with ⟨v, hrun⟩ | ⟨ty, hrun⟩
        · obtain ⟨w2, hr2, _, h2⟩ := (ht.1 o ho).store Yba.underlying34 (by unfold maxLen; have := hKV.num o ho; omega) hn v
          rw [hr2] at hrun
          injection hrun with _ hrun
          subst hrun
          exact h2
        · obtain ⟨w2, hr2, _, h2⟩ := (ht.1 o ho).drop Yba.underlying34 hn ty
          rw [hr2] at hrun
          injection hrun with _ hrun
          subst hrun
          exact h2
      refine ⟨n, F, cnt, h1.of_blocks (hgw.block _ h1.mapF.lt (fun e => e0 (hKV.inj o 0 ho h0 (by injection e with e; exact e.symm)))) (hgw.block _ h1.lt (fun e => ?_)), Nat.le_refl _, hm⟩
      injection e with e
      obtain ⟨ia, ib, ic, id, hit⟩ := h1.iter
      obtain ⟨D, ⟨es, clock, hb, _⟩, _⟩ := ht.1 o ho
      rw [e, hb] at hit
      cases hit

/-- What one settle leaves, whoever keeps. -/
def SettleA (no : Nat) (KB : Nat → Nat) (SS' : Nat → Int → List KM) (m r : Nat) (left : Int → Bool) (cnt : Nat) (w : World) (e : Ending) (w' : World) : Prop :=
  e = .returned (.tuple #[]) ∧ (∃ FF' NN', KV w' no KB FF' SS' NN' m) ∧ KOnly no KB w w' ∧ ∃ n' F' cnt', RangeF w' (KB 0) r n' F' left cnt' ∧ cnt' ≤ cnt ∧ n' ≤ m

theorem settle_all (hRt : Rt w B Rb sf vids ids pm um nm mk ps unm ucnt) (hSep : Sep w Rb pm um nm ps no KB) (hKV : KV w no KB FF SS NN m) (hkb : KBs ps mk no KB) (hm : m < 90000) (name : Int) (hn : U name) (hus : ∀ a ∈ unm, U a) (hl : ids.length ≤ 2000)
    {r n cnt : Nat} {F : Int → Option Value} {left : Int → Bool} (hr : RangeF w (KB 0) r n F left cnt) (hlf : left name = false) (hF : (F name).isSome = true) (hnm : n ≤ m) {SS' : Nat → Int → List KM}
    (hSS : SS' = fun o a => if a = name ∧ tOf ps sf a = some o then leftF ps unm ids a (SS o a) else SS o a) :
    Calls Yba.prog 27 #[.pointer (some ⟨Rb, 0, none⟩), .int .u64 name] w fun e w' => SettleA no KB SS' m r left cnt w e w' := by
  have h0 : 0 < no := by rw [hkb.no]; omega
  have key : ∀ o, tOf ps sf name = some o → SS' = set2 SS o name (leftF ps unm ids name (SS o name)) := fun o ho => by
    rw [hSS]
    funext o' a'
    unfold set2
    by_cases e : o' = o ∧ a' = name
    · obtain ⟨rfl, rfl⟩ := e
      simp [ho]
    · rw [if_neg e, if_neg]
      rintro ⟨rfl, h2⟩
      rw [ho] at h2
      injection h2 with h2
      exact e ⟨h2.symm, rfl⟩
  by_cases hs : name = sf
  · have ht : tOf ps sf name = some 0 := by unfold tOf; rw [if_pos hs]
    rw [key 0 ht]
    refine (settle_at hRt hSep hKV hm name hn hus hl 0 h0 Rb 5 (by unfold keepAt; rw [if_pos hs]) (fun w' h => by rw [hkb.mine]; exact h.c13)).mono ?_
    intro e w1 hp
    exact ⟨hp.1, hp.2.1, hp.2.2.1, hp.range hKV hr h0 h0 hn hlf hF hnm hm⟩
  · cases hp : ps.find? (fun p => p.id == name) with
    | none =>
      have hSS' : SS' = SS := by
        rw [hSS]
        funext o a
        rw [if_neg]
        rintro ⟨rfl, h2⟩
        unfold tOf at h2
        rw [if_neg hs, hp] at h2
        simp at h2
      refine (settle_none hRt name hn (by unfold keepAt pmF; rw [if_neg hs, hp]; rfl)).mono ?_
      rintro e w1 ⟨rfl, rfl⟩
      rw [hSS']
      exact ⟨rfl, ⟨FF, NN, hKV⟩, KOnly.refl _, n, F, cnt, hr, Nat.le_refl _, hnm⟩
    | some p =>
      have ht : tOf ps sf name = some (ownOf ps name) := by unfold tOf; rw [if_neg hs, hp]; rfl
      obtain ⟨ho, hko⟩ := hkb.at hp
      have hpm : p ∈ ps := List.mem_of_find?_eq_some hp
      rw [key _ ht]
      refine (settle_at hRt hSep hKV hm name hn hus hl (ownOf ps name) ho p.blk 0 (by unfold keepAt pmF; rw [if_neg hs, hp]; rfl) (fun w' h => by rw [hko]; exact (h.peers p hpm).c8)).mono ?_
      intro e w1 hq
      exact ⟨hq.1, hq.2.1, hq.2.2.1, hq.range hKV hr h0 ho hn hlf hF hnm hm⟩
end

/-- What keepCarried leaves. -/
def CarP (w0 : World) (no : Nat) (KB : Nat → Nat) (SS' : Nat → Int → List KM) (G : List (Msg × List Int)) (m : Nat) (e : Ending) (w' : World) : Prop :=
  ∃ v FF' NN', e = .returned v ∧ KV w' no KB FF' SS' NN' m ∧ KOnly no KB w0 w' ∧ Got w' w0.heap.size v G

set_option linter.unusedVariables false in
set_option maxRecDepth 1000000 in
set_option maxHeartbeats 4000000 in
/-- keepCarried, from the settling on. -/
theorem carB {v1 v2 v3 v4 v5 v6 v7 v8 v10 v11 v12 v13 v14 v15 v16 v17 v18 v19 v20 v21 v22 v23 v24 v25 v26 v27 v28 v29 v30 v31 v32 v33 v34 v35 v36 v37 v38 v39 v40 v41 v42 v43 v44 v45 v46 v47 v48 v49 v50 v51 v52 v53 v54 v55 v56 v57 v58 v59 v60 v61 v62 v63 v64 v65 v66 v67 v68 v69 v70 v71 v72 v73 v74 v75 v76 v77 v78 v79 v80 v81 v82 v83 v84 v85 v86 v87 v88 v89 v90 v91 v92 v93 v94 v95 v96 v97 v98 v99 v100 v101 v102 v103 v104 v105 v106 v107 v108 v109 v110 : Value} (w0 w : World) (B Rb : Nat) (sf : Int) (vids : Value) (ids : List Int) (pm um nm mk : Nat) (ps : List Peer) (unm : List Int) (ucnt : Nat) (no : Nat) (KB : Nat → Nat) (FF : Nat → Int → Value) (SS : Nat → Int → List KM) (NN : Nat → Nat) (m : Nat) (vg : Value) (G : List (Msg × List Int))
    (hRt : Rt w0 B Rb sf vids ids pm um nm mk ps unm ucnt) (hSep : Sep w0 Rb pm um nm ps no KB) (hkb : KBs ps mk no KB) (hus : ∀ a ∈ unm, U a) (hl : ids.length ≤ 2000)
    (hko : KOnly no KB w0 w) (hKa : KeptAll w B no KB FF SS NN m) (hm : m < 90000) (hU : ∀ a, ¬ U a → SS 0 a = []) (hG : Got w w0.heap.size vg G) (SS' : Nat → Int → List KM) (hSS : SS' = setl ps unm ids sf SS (fun a => decide (SS 0 a ≠ [])))
    (code : Code) (hc : Yba.f7.body.map (tailN 3) = some code) :
    Code.wp Yba.prog code (bodyPost Yba.prog Yba.f7 (fun e w' => CarP w0 no KB SS' G m e w')) ⟨#[.pointer (some ⟨Rb, 0, none⟩), v1, v2, v3, v4, v5, v6, v7, v8, vg, v10, v11, v12, v13, v14, v15, v16, v17, v18, v19, v20, v21, v22, v23, v24, v25, v26, v27, v28, v29, v30, v31, v32, v33, v34, v35, v36, v37, v38, v39, v40, v41, v42, v43, v44, v45, v46, v47, v48, v49, v50, v51, v52, v53, v54, v55, v56, v57, v58, v59, v60, v61, v62, v63, v64, v65, v66, v67, v68, v69, v70, v71, v72, v73, v74, v75, v76, v77, v78, v79, v80, v81, v82, v83, v84, v85, v86, v87, v88, v89, v90, v91, v92, v93, v94, v95, v96, v97, v98, v99, v100, v101, v102, v103, v104, v105, v106, v107, v108, v109, v110], []⟩ w := by
  cases hc
  conv => arg 2; whnf
  have HRt : Hid (Rt w0 B Rb sf vids ids pm um nm mk ps unm ucnt) := hRt
  have HSep : Hid (Sep w0 Rb pm um nm ps no KB) := hSep
  have HUs : Hid (∀ a ∈ unm, U a) := hus
  have HG : Hid (Got w w0.heap.size vg G) := hG
  have HKo : Hid (KOnly no KB w0 w) := hko
  have HKb : Hid (KBs ps mk no KB) := hkb
  have HSS : Hid (SS' = setl ps unm ids sf SS (fun a => decide (SS 0 a ≠ []))) := hSS
  have HKa : Hid (KeptAll w B no KB FF SS NN m) := hKa
  have h0 : 0 < no := by rw [hkb.no]; omega
  have c13 : w.cell? ⟨Rb, 13, none⟩ = some (.map (some (KB 0))) := by rw [hkb.mine]; exact (hRt.konly hSep hko).c13
  obtain ⟨w1, hrun, hrg, hb1, hs1⟩ := (hKa.map 0 h0).range Yba.underlying34
  have HRg : Hid (RangeF w1 (KB 0) w.heap.size (NN 0) (mapOf (FF 0) (SS 0)) (fun a => (mapOf (FF 0) (SS 0) a).isSome) (NN 0)) := hrg
  have HB1 : Hid (Below w.heap.size w w1) := hb1
  have hnn := hKa.num 0 h0
  clear hRt hSep hus hG hko hkb hSS hKa hrg hb1
  go_wp2_with fail
  clear hrun c13
  have hw0 : w0.heap.size ≤ w.heap.size := HKo.out.size
  go_loopw [14] (fun _ wr => ∃ left cnt n F FF' NN', RangeF wr (KB 0) w.heap.size n F left cnt ∧ n ≤ m ∧ KV wr no KB FF' (setl ps unm ids sf SS (fun a => !left a && decide (SS 0 a ≠ []))) NN' m ∧ KOnly no KB w0 wr ∧ Got wr w0.heap.size vg G ∧ ∀ a, left a = true → SS 0 a ≠ []) (fun _ wr => wr.rangeLeft (KB 0) w.heap.size)
  case atStart =>
    refine ⟨_, _, _, _, FF, NN, HRg.out, hnn, ?_, HKo.out.trans (KOnly.of_below HB1.out), HG.out.later HB1.out, fun a ha => by simp only [mapOf] at ha; split at ha <;> simp_all⟩
    have : setl ps unm ids sf SS (fun a => !(mapOf (FF 0) (SS 0) a).isSome && decide (SS 0 a ≠ [])) = SS := by
      funext o a
      unfold setl
      rw [if_neg]
      rintro ⟨h1, _⟩
      by_cases hx : SS 0 a = [] <;> simp [mapOf, hx] at h1
    rw [this]
    exact (HKa.out.view).later HB1.out
  case round =>
    obtain ⟨left, cnt, n, F, FF', NN', hrg, hnm, hkv, hko, hG, hleft⟩ := hrel
    have hcnt := hrg.left_eq
    have HKV : Hid (KV wr no KB FF' (setl ps unm ids sf SS (fun a => !left a && decide (SS 0 a ≠ []))) NN' m) := hkv
    have HKr : Hid (KOnly no KB w0 wr) := hko
    have HGr : Hid (Got wr w0.heap.size vg G) := hG
    have HLf : Hid (∀ a, left a = true → SS 0 a ≠ []) := hleft
    have hit := hrg.iter
    have hrl := hrg.lt
    clear hkv hko hG hleft
    rcases hrg.next 0 with ⟨hl0, hnx⟩ | ⟨a, v, w2, cnt', ha, hla, hF, hnx, hrg2, hlt, hg, hsz, hen⟩
    · have HE : Hid (setl ps unm ids sf SS (fun a => !left a && decide (SS 0 a ≠ [])) = SS') := by
        show _ = _
        rw [HSS.out]
        have : (fun a => !left a && decide (SS 0 a ≠ [])) = (fun a => decide (SS 0 a ≠ [])) := by
          funext a
          by_cases hu : U a
          · rw [hl0 a hu]; simp
          · rw [hU a hu]; simp
        rw [this]
      clear hrg hcnt hl0 hit
      go_wp2_with fail
      go_ret
      refine ⟨vg, FF', NN', rfl, ?_, HKr.out, HGr.out⟩
      rw [← HE.out]
      exact HKV.out
    · have HRg2 : Hid (RangeF w2 (KB 0) w.heap.size n F (fun x => left x && !(x == a)) cnt') := hrg2
      have HLt : Hid (cnt' < cnt ∧ wr.rangeLeft (KB 0) w.heap.size = cnt) := ⟨hlt, hcnt⟩
      obtain ⟨ia, ib, ic, id, hit⟩ := hit
      have hio : ∀ b, b < wr.heap.size → (∀ a c s d, wr.heap[b]? ≠ some (.mapIter a c s d)) → w2.heap[b]? = wr.heap[b]? := fun b hb hne => hg.block b hb (fun e => by injection e with e; exact hne _ _ _ _ (by rw [e]; exact hit))
      have hko2 : KOnly no KB w0 w2 := HKr.out.push hg (fun g e => by injection e with e; omega)
      have hkv2 : KV w2 no KB FF' (setl ps unm ids sf SS (fun a => !left a && decide (SS 0 a ≠ []))) NN' m :=
        { HKV.out with
          map := fun o ho => (HKV.out.map o ho).of_block (hio _ (HKV.out.map o ho).lt (fun _ _ _ _ e => by
            obtain ⟨D, ⟨es, clock, hb, _⟩, _⟩ := HKV.out.map o ho
            rw [hb] at e; cases e))
          row := fun o x ho hn => (HKV.out.row o x ho hn).of_block (fun g' hg' => by
            obtain ⟨g2, hg2, hl2, cur, hc2⟩ := (HKV.out.row o x ho hn).own
            rw [hg2] at hg'; injection hg' with hg'; subst hg'
            exact hio _ hl2 (fun _ _ _ _ e => by rw [hc2] at e; cases e)) }
      have hG2 : Got w2 w0.heap.size vg G := by
        obtain ⟨L, h1, h2, h3⟩ := HGr.out
        refine ⟨L, h1.of_block (fun g' hg' => ?_), fun r hr => (h2 r hr).of_block (fun g' hg' => ?_), h3⟩
        · obtain ⟨cur, hc⟩ := h1.typed hg'
          exact hio _ (h1.lt hg').2 (fun _ _ _ _ e => by rw [hc] at e; cases e)
        · obtain ⟨cur, hc⟩ := (h2 r hr).typed hg'
          exact hio _ ((h2 r hr).lt hg').2 (fun _ _ _ _ e => by rw [hc] at e; cases e)
      have hRt2 := HRt.out.konly HSep.out hko2
      have hSep2 := HSep.out.konly hko2 hkv2.maps
      have hcall := settle_all hRt2 hSep2 hkv2 HKb.out hm a ha HUs.out hl hrg2 (by simp) (by rw [hF]; rfl) hnm rfl
      have HCall : Hid (Calls Yba.prog 27 #[.pointer (some ⟨Rb, 0, none⟩), .int .u64 a] w2 fun e w' => SettleA no KB (fun o x => if x = a ∧ tOf ps sf x = some o then leftF ps unm ids x (setl ps unm ids sf SS (fun a => !left a && decide (SS 0 a ≠ [])) o x) else setl ps unm ids sf SS (fun a => !left a && decide (SS 0 a ≠ [])) o x) m w.heap.size (fun x => left x && !(x == a)) cnt' w2 e w') := hcall
      have HKo2 : Hid (KOnly no KB w0 w2) := hko2
      have HG2 : Hid (Got w2 w0.heap.size vg G) := hG2
      have HSep2 : Hid (Sep w2 Rb pm um nm ps no KB) := hSep2
      have HA : Hid (left a = true ∧ SS 0 a ≠ []) := ⟨hla, HLf.out a hla⟩
      clear hrg hcnt hit hio hko2 hkv2 hG2 hRt2 hSep2 hcall hrg2 hlt hg hsz hla hrl hF
      go_wp2_with fail
      refine HCall.out.mono ?_
      rintro e w3 ⟨rfl, ⟨FF3, NN3, hkv3⟩, hko3, n3, F3, cnt3, hrg3, hle3, hn3⟩
      have HE : Hid (∃ left' cnt n F FF' NN', RangeF w3 (KB 0) w.heap.size n F left' cnt ∧ n ≤ m ∧ KV w3 no KB FF' (setl ps unm ids sf SS (fun a => !left' a && decide (SS 0 a ≠ []))) NN' m ∧ KOnly no KB w0 w3 ∧ Got w3 w0.heap.size vg G ∧ ∀ a, left' a = true → SS 0 a ≠ []) := by
        refine ⟨_, _, _, _, FF3, NN3, hrg3, hn3, ?_, HKo2.out.trans hko3, HG2.out.konly HSep2.out hko3, fun x hx => ?_⟩
        · have e1 : setl ps unm ids sf SS (fun x => !(left x && !(x == a)) && decide (SS 0 x ≠ [])) = (fun o x => if x = a ∧ tOf ps sf x = some o then leftF ps unm ids x (setl ps unm ids sf SS (fun a => !left a && decide (SS 0 a ≠ [])) o x) else setl ps unm ids sf SS (fun a => !left a && decide (SS 0 a ≠ [])) o x) := by
            funext o x
            by_cases hx : x = a
            · subst hx
              have h1 := HA.out.1
              have h2 := HA.out.2
              simp [setl, h1, h2]
            · simp [setl, hx]
          rw [e1]
          exact hkv3
        · simp only [Bool.and_eq_true] at hx
          exact HLf.out x hx.1
      have HM : Hid (w3.rangeLeft (KB 0) w.heap.size < wr.rangeLeft (KB 0) w.heap.size) := by
        show _ < _
        rw [hrg3.left_eq, HLt.out.2]
        have := HLt.out.1
        omega
      clear hkv3 hko3 hrg3 hle3 hn3
      go_wp2_with fail
      go_roundw
      case rel => exact HE.out
      case measure => exact HM.out
end Go.Proofs.Ybulkdkqw.lawS5586AWhole
