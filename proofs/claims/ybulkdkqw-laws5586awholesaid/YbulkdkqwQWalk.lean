import Derived.Test.YbulkdkqwQT8
import Derived.Test.YbulkdkqwQPrep
namespace Go.Proofs.Ybulkdkqw.lawS5586AWhole
open Go.ChangeShapes Go.WideShapes Go.ChangeAt Go.RowKit
theorem some_of {α : Type} {o : Option α} (h : o.isSome = true) (d : α) : o = some (o.getD d) := by
  cases o with
  | none => cases h
  | some a => rfl

/-- The router, just built. -/
theorem pb0 {W w : World} {Rb s : Nat} {sf : Int} (hsf : U sf) (hW : Below W.heap.size W w) (hs : W.heap.size ≤ s) (hR : W.heap.size ≤ Rb)
    (hblk : w.heap[Rb]? = some (.cells #[.slice none 0 0, .map (some (s + 1)), .map (some (s + 2)), .int .u64 sf, .map (some (s + 3)), .int .u8 0, .int .u64 0, .int .u64 0, .slice none 0 0, .int .u64 0, .slice none 0 0, .bool false, .map (some (s + 5)), .map (some (s + 6)), .map (some (s + 7)), .bool false, .int .u64 0] 39 (0, 0)))
    (h1 : ∀ i, 1 ≤ i → i ≤ 3 → MapF w (s + i) (fun _ => none) 0) (h2 : ∀ i, 5 ≤ i → i ≤ 7 → MapF w (s + i) (fun _ => none) 0) :
    PB W w Rb sf (s + 1) (s + 2) (s + 3) (s + 6) (.slice none 0 0) (.slice none 0 0) [] [] := by
  have hc : ∀ j, w.cell? ⟨Rb, j, none⟩ = (#[.slice none 0 0, .map (some (s + 1)), .map (some (s + 2)), .int .u64 sf, .map (some (s + 3)), .int .u8 0, .int .u64 0, .int .u64 0, .slice none 0 0, .int .u64 0, .slice none 0 0, .bool false, .map (some (s + 5)), .map (some (s + 6)), .map (some (s + 7)), .bool false, .int .u64 0] : Array Value)[j]? := fun j => by simp [World.cell?, hblk]
  have e1 : pmF [] = fun _ => none := by funext a; simp [pmF]
  refine ⟨⟨⟨hc 0, Sl.nil _ _, hc 1, hc 2, hc 3, hc 4, hc 13, ?_, ?_, h1 3 (by omega) (by omega), by simp, by simp, hsf⟩, ⟨_, hblk⟩, by simp, by simpa using hc 16, h2 6 (by omega) (by omega), by simp, ?_, ⟨hR, by omega, by omega, by omega⟩, by simp⟩, Sl.nil _ _, hW, List.Pairwise.nil, by simp, List.Pairwise.nil, by simp⟩
  · rw [e1]; exact h1 1 (by omega) (by omega)
  · simpa using h1 2 (by omega) (by omega)
  · simp

/-- What the sort leaves of the router. -/
theorem PB.sorted {W w w2 w3 : World} {Rb g n : Nat} {sf : Int} {pm um nm mk : Nat} {v vids : Value} {ids : List Int} {ps : List Peer} (h : PB W w Rb sf pm um nm mk v vids ids ps) (hg : g = w.heap.size) {M0 : List MP} (hb : Below w.heap.size w w2) (hR : RowM w2 g n M0) (hc : Chg [g] w2 w3) : PB W w3 Rb sf pm um nm mk v vids ids ps := by
  have h2 := h.later hb
  obtain ⟨cur, hcur, _⟩ := hR.row
  have hWw : W.heap.size ≤ w.heap.size := h.bel.size
  refine ⟨h2.rs.keep (fun b hl hne => hc.block b hl (fun hx => ?_)), h2.sl.chg hc (fun b hb' hx => ?_), h2.bel.trans (hc.below h2.bel.size (by simp; omega)), h.sort, h.mem, h.dist, h.ok⟩
  · simp at hx
    subst hx
    exact hne cur hcur
  · simp at hx
    have := (h.sl.lt hb').2
    omega

set_option linter.unusedVariables false in
set_option maxRecDepth 1000000 in
set_option maxHeartbeats 16000000 in
/-- THE LAW's FUNCTION: true, nothing that came in is changed. -/
theorem walk (W : World) (sf us : Int) (hsf : U sf) (hust : U us) (pao : Option Addr) (pls : List (Int × Int)) (pcap : Nat) (hp : In E43 W W.heap.size pao pls) (hpu : ∀ x ∈ pls, U x.1 ∧ 0 ≤ x.2 ∧ x.2 ≤ 255) (hpl : pls.length ≤ 1152921504606846976)
    (uao : Option Addr) (unm : List Int) (ucap : Nat) (hu : In E64 W W.heap.size uao unm) (huu : ∀ x ∈ unm, U x) (hul : unm.length ≤ 1152921504606846976)
    (qao : Option Addr) (pairs : List (Int × Int)) (qcap : Nat) (hq : In EP W W.heap.size qao pairs) (hqu : ∀ x ∈ pairs, U x.1) (hql : pairs.length ≤ 1152921504606846976)
    (eao : Option Addr) (evs : List Ev) (ecap : Nat) (he : In E53 W W.heap.size eao evs) (heu : ∀ x ∈ evs, x.ok) (hel : evs.length ≤ 1152921504606846976) :
    Calls Yba.prog 3 #[.int .u64 sf, .slice pao pls.length pcap, .slice uao unm.length ucap, .int .u64 us, .slice qao pairs.length qcap, .slice eao evs.length ecap] W fun e w' => LawP W e w' := by
  have HP : Hid (In E43 W W.heap.size pao pls ∧ ∀ x ∈ pls, U x.1 ∧ 0 ≤ x.2 ∧ x.2 ≤ 255) := ⟨hp, hpu⟩
  have HU : Hid (In E64 W W.heap.size uao unm ∧ ∀ x ∈ unm, U x) := ⟨hu, huu⟩
  have HQ : Hid (In EP W W.heap.size qao pairs ∧ ∀ x ∈ pairs, U x.1) := ⟨hq, hqu⟩
  have HE : Hid (In E53 W W.heap.size eao evs ∧ ∀ x ∈ evs, x.ok) := ⟨he, heu⟩
  have HS : Hid (U sf ∧ U us) := ⟨hsf, hust⟩
  clear hp hpu hu huu hq hqu he heu hsf hust
  go_enter Yba.func3, Yba.ntmps3
  refine wp_seq_k ?_
  intro K hK
  have HK := show Hid _ from hK
  clear hK
  go_wp2_with fail
  refine HK.out _ _ ?_
  clear HK K
  refine wp_seq_k ?_
  intro K hK
  have HK := show Hid _ from hK
  clear hK
  by_cases hbig : pls.length ≤ 1024 ∧ unm.length ≤ 1024 ∧ pairs.length ≤ 1024 ∧ evs.length ≤ 1024
  · obtain ⟨l1, l2, l3, l4⟩ := hbig
    have g1 : decide ((pls.length : Int) > 1024) = false := decide_eq_false (by omega)
    have g2 : decide ((unm.length : Int) > 1024) = false := decide_eq_false (by omega)
    have g3 : decide ((pairs.length : Int) > 1024) = false := decide_eq_false (by omega)
    have g4 : decide ((evs.length : Int) > 1024) = false := decide_eq_false (by omega)
    go_wp2_with fail
    refine HK.out _ _ ?_
    clear HK K g1 g2 g3 g4
    refine wp_seq_k ?_
    intro K hK
    have HK := show Hid _ from hK
    clear hK
    go_wp2_with fail
    refine (newRouter_any sf W).mono ?_
    rintro e w1 ⟨rfl, hs1, hb1, hm1, hm2⟩
    have HR : Hid (w1.heap.size = W.heap.size + 8 ∧ Below W.heap.size W w1 ∧ (∀ i, 1 ≤ i → i ≤ 3 → MapF w1 (W.heap.size + i) (fun _ => none) 0) ∧ (∀ i, 5 ≤ i → i ≤ 7 → MapF w1 (W.heap.size + i) (fun _ => none) 0)) := ⟨hs1, hb1, hm1, hm2⟩
    clear hs1 hb1 hm1 hm2
    go_wp2_with fail
    refine HK.out _ _ ?_
    clear HK K
    refine wp_seq_k ?_
    intro K hK
    have HK := show Hid _ from hK
    clear hK
    go_wp2_with fail
    refine HK.out _ _ ?_
    clear HK K
    generalize hw2 : World.alloc _ _ = w2
    have hblk : w2.heap[w1.heap.size]? = some (.cells #[.slice none 0 0, .map (some (W.heap.size + 1)), .map (some (W.heap.size + 2)), .int .u64 sf, .map (some (W.heap.size + 3)), .int .u8 0, .int .u64 0, .int .u64 0, .slice none 0 0, .int .u64 0, .slice none 0 0, .bool false, .map (some (W.heap.size + 5)), .map (some (W.heap.size + 6)), .map (some (W.heap.size + 7)), .bool false, .int .u64 0] 39 (0, 0)) := by subst hw2; exact Deep.blk_alloc_new _ _
    have hb12 : Below w1.heap.size w1 w2 := by subst hw2; exact nb (Below.refl _ _) (Nat.le_refl _) _
    clear hw2
    obtain ⟨hs1, hb1, hm1, hm2⟩ := HR.out
    have hb2 : Below W.heap.size W w2 := hb1.trans (hb12.mono hb1.size)
    have hPB0 := pb0 HS.out.1 hb2 (Nat.le_refl _) hb1.size hblk (fun i h1 h2 => (hm1 i h1 h2).later hb12) (fun i h1 h2 => (hm2 i h1 h2).later hb12)
    refine t4 W w2 w1.heap.size sf _ _ _ _ pls pao pcap hPB0 (HP.out.1.later hb2) l1 HP.out.2 _ ?_ _ rfl
    iterate 50 intro _
    intro wz vids ids ps hPB hpl4
    obtain ⟨pa, pc, hx14, _⟩ := hPB.sl.open
    rw [List.length_map] at hx14
    subst hx14
    refine t5 wz W.heap.size ps.length pa pc (ps.map pm3) hPB.sl hpl4 _ ?_ _ (some_of rfl _)
    iterate 6 intro _
    intro wy hRow hby
    have hdist : (ps.map pm3).Pairwise (fun a b => a.id ≠ b.id) := by rw [List.pairwise_map]; exact hPB.dist
    refine t7 wy wz.heap.size ps.length (ps.map pm3) hRow hpl4 hdist _ ?_ _ (some_of rfl _)
    iterate 45 intro _
    intro wr M hRM hperm hsort hch
    have hPB3 := hPB.sorted rfl hby hRow hch
    have hlen := hPB3.len
    have hsl := hRM.toSl (C := W.heap.size) hPB.bel.size (by omega)
    have hkey : Value.slice (some ⟨wz.heap.size, 0, none⟩) ps.length ps.length = Value.slice (some ⟨wz.heap.size, 0, none⟩) ids.length ps.length := by rw [hlen]
    rw [hkey] at hsl ⊢
    exact t8 W wr W.heap.size w1.heap.size sf us vids ids _ _ _ _ ps unm pairs evs uao qao eao pa (some ⟨wz.heap.size, 0, none⟩) ucap qcap ecap pc ps.length M (ps.length + 1) (kbF _ ps) (fun _ _ => .slice none 0 0) (fun _ => 0) W.heap.size hPB3.bel hPB3.rs.toRU hPB3.rs.lo.2.2.1 HU.out.2 (HU.out.1.later hPB3.bel) l2 HS.out.1 HS.out.2 (HQ.out.1.later hPB3.bel) l3 HQ.out.2 hPB3.rs.lo.2.2.2 hPB3.bel.size hPB3.bel.size hsl (hPB3.sortM hperm hsort) (by omega) hPB3.mem (HE.out.1.later hPB3.bel) l4 HE.out.2 hPB3.sl hpl4 (fun p hp => (hPB3.ok p hp).1) _ (some_of rfl _)
  · go_wp2_with fail
    all_goals
      go_ret
      exact ⟨rfl, Below.refl _ _⟩
end Go.Proofs.Ybulkdkqw.lawS5586AWhole
