import Derived.Test.YbulkdkqwQPeer
namespace Go.Proofs.Ybulkdkqw.lawS5586AWhole
open Go.ChangeShapes Go.WideShapes Go.ChangeAt Go.RowKit

def blks (p : Peer) : List Nat := [p.hb, p.kb, p.jb]

/-- A router while it is built: nothing is kept yet. -/
structure RS (w : World) (B Rb : Nat) (sf : Int) (vids : Value) (ids : List Int) (pm um nm mk : Nat) (ps : List Peer) : Prop where
  rt : Rt w B Rb sf vids ids pm um nm mk ps [] 0
  tR : ∃ cur, w.heap[Rb]? = some (.cells cur 39 (0, 0))
  tP : ∀ p ∈ ps, ∃ cur, w.heap[p.blk]? = some (.cells cur 37 (0, 0))
  c16 : w.cell? ⟨Rb, 16, none⟩ = some (.int .u64 (ps.length : Int))
  mine : MapF w mk (fun _ => none) 0
  kept : ∀ p ∈ ps, MapF w p.kb (fun _ => none) 0
  nd : (pm :: um :: nm :: mk :: ps.flatMap blks).Nodup
  lo : B ≤ Rb ∧ B ≤ pm ∧ B ≤ um ∧ B ≤ mk
  mklo : ∀ p ∈ ps, mk ≤ p.kb

section
variable {w w' : World} {B Rb : Nat} {sf : Int} {vids vids' : Value} {ids ids' : List Int} {pm um nm mk : Nat} {ps : List Peer}

theorem RS.maps (h : RS w B Rb sf vids ids pm um nm mk ps) : ∀ b ∈ pm :: um :: nm :: mk :: ps.flatMap blks, b < w.heap.size := by
  intro b hb
  simp only [List.mem_cons, List.mem_flatMap] at hb
  rcases hb with rfl | rfl | rfl | rfl | ⟨p, hp, hb⟩
  · exact h.rt.pmap.lt
  · exact h.rt.umap.lt
  · exact h.rt.nmap.lt
  · exact h.mine.lt
  · simp [blks] at hb
    rcases hb with rfl | rfl | rfl
    · exact (h.rt.peers p hp).has.lt
    · exact (h.kept p hp).lt
    · exact (h.rt.peers p hp).joined.lt

/-- One more peer. -/
theorem RS.grow (h : RS w B Rb sf vids ids pm um nm mk ps) (p : Peer)
    (hold : ∀ b, b < w.heap.size → b ≠ Rb → b ≠ um → b ≠ pm → vids.ownBlock ≠ some b → w'.heap[b]? = w.heap[b]?)
    (tR : ∃ cur, w'.heap[Rb]? = some (.cells cur 39 (0, 0))) (hRc : ∀ j, j ≠ 0 → j ≠ 16 → w'.cell? ⟨Rb, j, none⟩ = w.cell? ⟨Rb, j, none⟩)
    (h0 : w'.cell? ⟨Rb, 0, none⟩ = some vids') (h16 : w'.cell? ⟨Rb, 16, none⟩ = some (.int .u64 ((ps.length : Int) + 1)))
    (hpm : MapF w' pm (pmF (ps ++ [p])) (ps.length + 1)) (hum : MapF w' um (fun _ => none) 0) (hids : Sl E64 22 w' B vids' ids')
    (tP : ∃ cur, w'.heap[p.blk]? = some (.cells cur 37 (0, 0))) (hP : PeerAt w' p) (hk : MapF w' p.kb (fun _ => none) 0)
    (hn : w.heap.size ≤ p.hb ∧ p.hb < p.kb ∧ p.kb < p.jb) (hu : ∀ a ∈ ids', U a ∧ ∃ q, (ps ++ [p]).find? (fun q => q.id == a) = some q) :
    RS w' B Rb sf vids' ids' pm um nm mk (ps ++ [p]) := by
  obtain ⟨cR, hR⟩ := h.tR
  have hnd := h.nd
  have rne : ∀ {b n F}, MapF w b F n → b ≠ Rb := fun hm e => mapF_ne2 (t := 39) hm cR (by rw [e]; exact hR)
  have vne : ∀ {b n F}, MapF w b F n → vids.ownBlock ≠ some b := fun hm e => by
    obtain ⟨c, hc⟩ := h.rt.hids.typed e
    exact mapF_ne2 (t := 22) hm c hc
  have keepM : ∀ {b n F}, MapF w b F n → b ≠ um → b ≠ pm → MapF w' b F n := fun hm h1 h2 => hm.of_block (hold _ hm.lt (rne hm) h1 h2 (vne hm))
  have hmem : ∀ q ∈ ps, ∀ b ∈ blks q, b ≠ pm ∧ b ≠ um := fun q hq b hb => by
    have hin : b ∈ ps.flatMap blks := List.mem_flatMap.2 ⟨q, hq, hb⟩
    simp only [List.nodup_cons, List.mem_cons, not_or] at hnd
    exact ⟨fun e => hnd.1.2.2.2 (e ▸ hin), fun e => hnd.2.1.2.2 (e ▸ hin)⟩
  simp only [List.nodup_cons, List.mem_cons, not_or] at hnd
  have cell : ∀ j, j ≠ 0 → j ≠ 16 → ∀ {v}, w.cell? ⟨Rb, j, none⟩ = some v → w'.cell? ⟨Rb, j, none⟩ = some v := fun j h1 h2 {v} e => (hRc j h1 h2).trans e
  refine ⟨⟨h0, hids, cell 1 (by omega) (by omega) h.rt.c1, cell 2 (by omega) (by omega) h.rt.c2, cell 3 (by omega) (by omega) h.rt.c3, cell 4 (by omega) (by omega) h.rt.c4, cell 13 (by omega) (by omega) h.rt.c13, by simpa using hpm, by simpa using hum, keepM h.rt.nmap (fun e => hnd.2.1.1 e.symm) (fun e => hnd.1.2.1 e.symm), ?_, hu, h.rt.usf⟩, tR, ?_, by rw [h16]; simp, keepM h.mine (fun e => hnd.2.1.2.1 e.symm) (fun e => hnd.1.2.2.1 e.symm), ?_, ?_, h.lo, ?_⟩
  · intro q hq
    rcases List.mem_append.1 hq with hq | hq
    · obtain ⟨cP, hPq⟩ := h.tP q hq
      have hp0 := h.rt.peers q hq
      have hl : q.blk < w.heap.size := World.block_lt_of_cell? w _ hp0.c0
      have e := hold q.blk hl (fun e => cells_ne2 (t' := 39) hPq (by decide) cR (by rw [e]; exact hR)) (fun e => mapF_ne2 (t := 37) h.rt.umap cP (by rw [← e]; exact hPq)) (fun e => mapF_ne2 (t := 37) h.rt.pmap cP (by rw [← e]; exact hPq)) (fun e => by
        obtain ⟨c, hc⟩ := h.rt.hids.typed e
        exact cells_ne2 (t' := 22) hPq (by decide) c hc)
      have hcp : ∀ j, w'.cell? ⟨q.blk, j, none⟩ = w.cell? ⟨q.blk, j, none⟩ := fun j => World.cell?_of_block (w := w) e
      have hb1 := hmem q hq q.hb (by simp [blks])
      have hb3 := hmem q hq q.jb (by simp [blks])
      exact ⟨(hcp 0).trans hp0.c0, (hcp 1).trans hp0.c1, (hcp 4).trans hp0.c4, (hcp 5).trans hp0.c5, (hcp 7).trans hp0.c7, (hcp 8).trans hp0.c8, (hcp 9).trans hp0.c9, (hcp 10).trans hp0.c10, keepM hp0.has hb1.2 hb1.1, keepM hp0.joined hb3.2 hb3.1, hp0.st0, hp0.st2⟩
    · simp at hq; subst hq; exact hP
  · intro q hq
    rcases List.mem_append.1 hq with hq | hq
    · obtain ⟨cP, hPq⟩ := h.tP q hq
      have hl : q.blk < w.heap.size := (Array.getElem?_eq_some_iff.1 hPq).1
      have e := hold q.blk hl (fun e => cells_ne2 (t' := 39) hPq (by decide) cR (by rw [e]; exact hR)) (fun e => mapF_ne2 (t := 37) h.rt.umap cP (by rw [← e]; exact hPq)) (fun e => mapF_ne2 (t := 37) h.rt.pmap cP (by rw [← e]; exact hPq)) (fun e => by
        obtain ⟨c, hc⟩ := h.rt.hids.typed e
        exact cells_ne2 (t' := 22) hPq (by decide) c hc)
      exact ⟨cP, e.trans hPq⟩
    · simp at hq; subst hq; exact tP
  · intro q hq
    rcases List.mem_append.1 hq with hq | hq
    · have hb2 := hmem q hq q.kb (by simp [blks])
      exact keepM (h.kept q hq) hb2.2 hb2.1
    · simp at hq; subst hq; exact hk
  · have e : (pm :: um :: nm :: mk :: (ps ++ [p]).flatMap blks) = (pm :: um :: nm :: mk :: ps.flatMap blks) ++ [p.hb, p.kb, p.jb] := by simp [blks]
    rw [e, List.nodup_append]
    refine ⟨h.nd, by simp; omega, fun a ha b hb => ?_⟩
    have := h.maps a ha
    simp at hb
    omega
  · intro q hq
    rcases List.mem_append.1 hq with hq | hq
    · exact h.mklo q hq
    · simp at hq; subst hq
      have := h.mine.lt
      omega
end

/-- The worlds within setPeer (it began in w). -/
structure SB (w : World) (Rb : Nat) (X : List Nat) (id : Int) (n : Nat) (wx : World) : Prop where
  chg : Chg X w wx
  sz : w.heap.size + 2 ≤ wx.heap.size
  tR : ∃ cur, wx.heap[Rb]? = some (.cells cur 39 (0, 0))
  rc : ∀ j, j ≠ 16 → wx.cell? ⟨Rb, j, none⟩ = w.cell? ⟨Rb, j, none⟩
  r16 : wx.cell? ⟨Rb, 16, none⟩ = some (.int .u64 ((n : Int) + 1))
  b0 : wx.cell? ⟨w.heap.size, 0, none⟩ = some (.pointer (some ⟨Rb, 0, none⟩))
  b1 : wx.cell? ⟨w.heap.size + 1, 0, none⟩ = some (.int .u64 id)
theorem SB.step {w wx wy : World} {Rb : Nat} {X Y : List Nat} {id : Int} {n : Nat} (h : SB w Rb X id n wx) (hR : Rb < w.heap.size) (hc : Chg Y wx wy) (h1 : ∀ y ∈ Y, y ∈ X ∧ y ≠ Rb ∧ y < w.heap.size) : SB w Rb X id n wy := by
  have hb : ∀ b, b ∉ Y → b < wx.heap.size → wy.heap[b]? = wx.heap[b]? := fun b hb hl => hc.block b hl hb
  have hcell : ∀ b j, b ∉ Y → b < wx.heap.size → wy.cell? ⟨b, j, none⟩ = wx.cell? ⟨b, j, none⟩ := fun b j h1 h2 => World.cell?_of_block (w := wx) (hb b h1 h2)
  have nR : Rb ∉ Y := fun e => (h1 Rb e).2.1 rfl
  have n0 : w.heap.size ∉ Y := fun e => by have := (h1 _ e).2.2; omega
  have n1 : w.heap.size + 1 ∉ Y := fun e => by have := (h1 _ e).2.2; omega
  have hsz := h.sz
  obtain ⟨cur, hcur⟩ := h.tR
  exact ⟨h.chg.trans (hc.mono (fun y hy => (h1 y hy).1)), Nat.le_trans h.sz hc.size, ⟨cur, (hb Rb nR (by omega)).trans hcur⟩, fun j hj => (hcell Rb j nR (by omega)).trans (h.rc j hj), (hcell Rb 16 nR (by omega)).trans h.r16, (hcell _ 0 n0 (by omega)).trans h.b0, (hcell _ 0 n1 (by omega)).trans h.b1⟩
theorem SB.later {w wx wy : World} {Rb : Nat} {X : List Nat} {id : Int} {n : Nat} (h : SB w Rb X id n wx) (hR : Rb < w.heap.size) (hb : Below wx.heap.size wx wy) : SB w Rb X id n wy := h.step hR (Y := []) (Chg.of_below hb) (by simp)

theorem take_drop_in {ids : List Int} {id : Int} {i : Nat} (hr : ids.Pairwise (· < ·)) (hi : i ≤ ids.length) (hn : id ∉ ids) (hlo : ∀ k, k < i → decide (ids[k]?.getD 0 ≥ id) = false) (hhi : ∀ k, i ≤ k → k < ids.length → decide (ids[k]?.getD 0 ≥ id) = true) :
    (ids.take i ++ id :: ids.drop i).Pairwise (· < ·) ∧ ∀ a, a ∈ ids.take i ++ id :: ids.drop i ↔ a = id ∨ a ∈ ids := by
  have hlt : ∀ a ∈ ids.take i, a < id := fun a ha => by
    obtain ⟨k, hk, e⟩ := List.getElem_of_mem ha
    have hk' : k < i := by simp at hk; omega
    have h1 := hlo k hk'
    rw [List.getElem_take] at e
    rw [List.getElem?_eq_getElem (by simp at hk; omega), e] at h1
    simpa using h1
  have hgt : ∀ a ∈ ids.drop i, id < a := fun a ha => by
    obtain ⟨k, hk, e⟩ := List.getElem_of_mem ha
    rw [List.getElem_drop] at e
    have h1 := hhi (i + k) (by omega) (by simp at hk; omega)
    rw [List.getElem?_eq_getElem (by simp at hk; omega), e] at h1
    have h2 : id ≤ a := by simpa using h1
    have h3 : a ≠ id := fun e => hn (e ▸ List.mem_of_mem_drop ha)
    omega
  refine ⟨?_, fun a => ?_⟩
  · rw [List.pairwise_append]
    refine ⟨hr.sublist (List.take_sublist _ _), ?_, fun a ha b hb => ?_⟩
    · rw [List.pairwise_cons]
      exact ⟨hgt, hr.sublist (List.drop_sublist _ _)⟩
    · rcases List.mem_cons.1 hb with rfl | hb
      · exact hlt a ha
      · have := hlt a ha
        have := hgt b hb
        omega
  · have e : a ∈ ids ↔ a ∈ ids.take i ∨ a ∈ ids.drop i := by
      rw [← List.mem_append, List.take_append_drop]
    rw [e]
    simp only [List.mem_append, List.mem_cons]
    constructor
    · rintro (h | h | h)
      · exact .inr (.inl h)
      · exact .inl h
      · exact .inr (.inr h)
    · rintro (h | h | h)
      · exact .inr (.inl h)
      · exact .inl h
      · exact .inr (.inr h)

/-- What setPeer leaves, of a new peer. -/
def SetP (w : World) (B Rb : Nat) (sf : Int) (ids : List Int) (pm um nm mk : Nat) (ps : List Peer) (id st : Int) (e : Ending) (w' : World) : Prop :=
  e = .returned (.slice none 0 0) ∧ ∃ vids' ids' p, p.id = id ∧ p.st = st ∧ p.since = (ps.length : Int) + 1 ∧ RS w' B Rb sf vids' ids' pm um nm mk (ps ++ [p]) ∧ ids'.Pairwise (· < ·) ∧ (∀ a, a ∈ ids' ↔ a = id ∨ a ∈ ids) ∧ Below B w w' ∧
    ∀ (b : Nat) (cur : Array Value) (t : TypeId), w.heap[b]? = some (.cells cur t (0, 0)) → t ≠ 39 → t ≠ 22 → w'.heap[b]? = w.heap[b]?

set_option linter.unusedVariables false in
/-- The end of setPeer. -/
theorem set_fin {w wg wh : World} {B Rb : Nat} {sf : Int} {vids v' : Value} {ids ids' : List Int} {pm um nm mk : Nat} {ps : List Peer} {id st : Int} {nb' : Nat}
    (hS : RS w B Rb sf vids ids pm um nm mk ps) (hid : U id) (hnew : ∀ p ∈ ps, p.id ≠ id) (hst : 0 ≤ st ∧ st ≤ 2) (hB : B ≤ w.heap.size)
    (hH : SB w Rb [Rb, um, pm, (vids.ownBlock).getD Rb] id ps.length wh)
    (HX : ∀ b, b ∈ [Rb, um, pm, (vids.ownBlock).getD Rb] → b = Rb ∨ b = um ∨ b = pm ∨ vids.ownBlock = some b)
    (HVg : ∀ g, vids.ownBlock = some g → g ≠ Rb ∧ g ≠ um ∧ g ≠ pm ∧ g < w.heap.size ∧ B ≤ g) (hpR : pm ≠ Rb) (huR : um ≠ Rb)
    (hGh : wg.grownBy wh vids.ownBlock) (hnb : w.heap.size ≤ nb') (hng : nb' + 4 < wg.heap.size)
    (hpm : MapF wg pm (upd (pmF ps) id (some (.pointer (some ⟨nb' + 4, 0, none⟩)))) (ps.length + 1)) (hum : MapF wg um (fun _ => none) 0)
    (hNw : wg.heap[nb' + 4]? = some (.cells #[.int .u8 st, .int .u64 ((ps.length : Int) + 1), .int .u64 0, .slice none 0 0, .int .u64 0, .slice none 0 0, .bool false, .map (some (nb' + 1)), .map (some (nb' + 2)), .map (some (nb' + 3)), .bool false] 37 (0, 0)) ∧ MapF wg (nb' + 1) (fun _ => none) 0 ∧ MapF wg (nb' + 2) (fun _ => none) 0 ∧ MapF wg (nb' + 3) (fun _ => none) 0)
    (hsl : Sl E64 22 wh B v' ids') (hloc : Loc wg vids v') (hr : ids'.Pairwise (· < ·)) (hm : ∀ a, a ∈ ids' ↔ a = id ∨ a ∈ ids) :
    SetP w B Rb sf ids pm um nm mk ps id st (.returned (.slice none 0 0)) (wh.setCell ⟨Rb, 0, none⟩ v') := by
  have lR : Rb < w.heap.size := (Array.getElem?_eq_some_iff.1 hS.tR.choose_spec).1
  have hsw : w.heap.size ≤ wg.heap.size := by omega
  have hoth : ∀ b, b ≠ Rb → (wh.setCell ⟨Rb, 0, none⟩ v').heap[b]? = wh.heap[b]? := fun b hb => Deep.blk_setCell_other _ _ _ _ hb
  have hog : ∀ b, b < wg.heap.size → b ≠ Rb → vids.ownBlock ≠ some b → (wh.setCell ⟨Rb, 0, none⟩ v').heap[b]? = wg.heap[b]? := fun b hl hb hv => (hoth b hb).trans (hGh.block b hl (fun e => hv e.symm))
  have hvn : ∀ b, w.heap.size ≤ b → vids.ownBlock ≠ some b := fun b hb e => by have := (HVg b e).2.2.2.1; omega
  have hold : ∀ b, b < w.heap.size → b ≠ Rb → b ≠ um → b ≠ pm → vids.ownBlock ≠ some b → (wh.setCell ⟨Rb, 0, none⟩ v').heap[b]? = w.heap[b]? := fun b hl h1 h2 h3 h4 => (hoth b h1).trans (hH.chg.block b hl (fun hx => by rcases HX b hx with h | h | h | h <;> contradiction))
  obtain ⟨cR, hcR⟩ := hH.tR
  have hnw : ∀ i, 1 ≤ i → i ≤ 4 → (wh.setCell ⟨Rb, 0, none⟩ v').heap[nb' + i]? = wg.heap[nb' + i]? := fun i _ _ => hog _ (by omega) (by omega) (hvn _ (by omega))
  have hpb := (hnw 4 (by omega) (by omega)).trans hNw.1
  have hpc : ∀ j, (wh.setCell ⟨Rb, 0, none⟩ v').cell? ⟨nb' + 4, j, none⟩ = (#[.int .u8 st, .int .u64 ((ps.length : Int) + 1), .int .u64 0, .slice none 0 0, .int .u64 0, .slice none 0 0, .bool false, .map (some (nb' + 1)), .map (some (nb' + 2)), .map (some (nb' + 3)), .bool false] : Array Value)[j]? := fun j => by simp [World.cell?, hpb]
  have pne : vids.ownBlock ≠ some pm := fun e => (HVg pm e).2.2.1 rfl
  have une : vids.ownBlock ≠ some um := fun e => (HVg um e).2.1 rfl
  have hfind : ∀ a, (ps ++ [(⟨id, st, (ps.length : Int) + 1, nb' + 4, nb' + 1, nb' + 2, nb' + 3⟩ : Peer)]).find? (fun q => q.id == a) = if a = id then some ⟨id, st, (ps.length : Int) + 1, nb' + 4, nb' + 1, nb' + 2, nb' + 3⟩ else ps.find? (fun q => q.id == a) := fun a => by
    rw [List.find?_append]
    by_cases e : a = id
    · subst e
      rw [if_pos rfl, List.find?_eq_none.2 (fun p hp => by simpa using hnew p hp)]
      simp
    · rw [if_neg e]
      have : ¬ id = a := fun h => e h.symm
      simp [this]
  refine ⟨rfl, v', ids', ⟨id, st, (ps.length : Int) + 1, nb' + 4, nb' + 1, nb' + 2, nb' + 3⟩, rfl, rfl, rfl, ?_, hr, hm, ?_, ?_⟩
  · refine hS.grow _ hold ⟨_, heap_setCell_same wh Rb 0 cR 39 _ hcR⟩ (fun j h0 h16 => ?_) ?_ ?_ ?_ ?_ ?_ ⟨_, hpb⟩ ?_ (hNw.2.2.1.of_block (hnw 2 (by omega) (by omega))) ⟨by show w.heap.size ≤ nb' + 1; omega, by show nb' + 1 < nb' + 2; omega, by show nb' + 2 < nb' + 3; omega⟩ (fun a ha => ?_)
    · exact (World.cell?_setCell_other _ _ _ _ (fun e => h0 (by injection e with _ e; exact e.symm))).trans (hH.rc j h16)
    · have h0 : wh.cell? ⟨Rb, 0, none⟩ = some vids := (hH.rc 0 (by omega)).trans hS.rt.c0
      exact World.cell?_setCell_same _ _ _ h0
    · exact (World.cell?_setCell_other _ _ _ _ (fun e => by injection e with _ e; cases e)).trans hH.r16
    · have e : pmF (ps ++ [⟨id, st, (ps.length : Int) + 1, nb' + 4, nb' + 1, nb' + 2, nb' + 3⟩]) = upd (pmF ps) id (some (.pointer (some ⟨nb' + 4, 0, none⟩))) := by
        funext a
        unfold pmF upd
        rw [hfind a]
        by_cases e : a = id <;> simp [e]
      rw [e]
      exact hpm.of_block (hog pm hpm.lt hpR pne)
    · exact hum.of_block (hog um hum.lt huR une)
    · refine hsl.of_block (fun g hg => hoth g ?_)
      rcases hloc with h | ⟨g', h, hge⟩
      · rw [h] at hg
        exact (HVg g hg).1
      · rw [h] at hg
        injection hg with hg
        omega
    · exact ⟨hpc 0, hpc 1, hpc 4, hpc 5, hpc 7, hpc 8, hpc 9, hpc 10, hNw.2.1.of_block (hnw 1 (by omega) (by omega)), hNw.2.2.2.of_block (hnw 3 (by omega) (by omega)), hst.1, hst.2⟩
    · rcases (hm a).1 ha with rfl | ha
      · exact ⟨hid, _, by rw [hfind, if_pos rfl]⟩
      · obtain ⟨h1, q, hq⟩ := hS.rt.uids a ha
        refine ⟨h1, ?_⟩
        rw [hfind]
        by_cases e : a = id
        · exact ⟨_, if_pos e⟩
        · exact ⟨q, by rw [if_neg e]; exact hq⟩
  · refine ⟨hH.chg.os, hH.chg.tape, hH.chg.output, by simpa using hH.chg.size, fun k hk => ?_⟩
    have hlo := hS.lo
    refine hold k (by omega) (by omega) (by omega) (by omega) (fun e => ?_)
    have := (HVg k e).2.2.2.2
    omega
  · intro b cur t hb h39 h22
    refine hold b (Array.getElem?_eq_some_iff.1 hb).1 (fun e => ?_) (fun e => ?_) (fun e => ?_) (fun e => ?_)
    · obtain ⟨c, hc⟩ := hS.tR
      exact cells_ne2 (t' := 39) hb h39 c (by rw [e]; exact hc)
    · exact mapF_ne2 (t := t) hS.rt.umap cur (by rw [← e]; exact hb)
    · exact mapF_ne2 (t := t) hS.rt.pmap cur (by rw [← e]; exact hb)
    · obtain ⟨c, hc⟩ := hS.rt.hids.typed e
      exact cells_ne2 (t' := 22) hb h22 c hc

set_option linter.unusedVariables false in
set_option maxRecDepth 1000000 in
set_option maxHeartbeats 4000000 in
/-- setPeer, of a new peer. -/
theorem setPeer_any (w : World) (B Rb : Nat) (sf : Int) (vids : Value) (ids : List Int) (pm um nm mk : Nat) (ps : List Peer) (id st : Int)
    (hS : RS w B Rb sf vids ids pm um nm mk ps) (hr : ids.Pairwise (· < ·)) (hid : U id) (hnew : ∀ p ∈ ps, p.id ≠ id) (hst : 0 ≤ st ∧ st ≤ 2) (hpl : ps.length ≤ 2000) (hil : ids.length ≤ 2000) (hB : B ≤ w.heap.size) :
    Calls Yba.prog 6 #[.pointer (some ⟨Rb, 0, none⟩), .int .u64 id, .int .u8 st] w fun e w' => SetP w B Rb sf ids pm um nm mk ps id st e w' := by
  have HS : Hid (RS w B Rb sf vids ids pm um nm mk ps) := hS
  have HR : Hid (ids.Pairwise (· < ·)) := hr
  have HNew : Hid (∀ p ∈ ps, p.id ≠ id) := hnew
  obtain ⟨cR, hRb⟩ := hS.tR
  have c16 := hS.c16
  have lR : Rb < w.heap.size := World.block_lt_of_cell? w _ c16
  have fR : ∀ j, w.frozen? ⟨Rb, j, none⟩ = false := fun j => by simp [World.frozen?, hRb]
  clear hS hr hnew hRb
  go_enter Yba.func6, Yba.ntmps6
  refine wp_seq_k ?_
  intro K hK
  have HK := show Hid _ from hK
  clear hK
  go_wp2_with fail
  refine HK.out _ _ ?_
  clear HK K
  refine wp_seq_k ?_
  intro K hK
  have HK := show Hid _ from hK
  clear hK
  go_wp2_with fail
  refine HK.out _ _ ?_
  clear HK K
  generalize hwa : World.alloc _ _ = wa
  have hA : SB w Rb [Rb, um, pm, (vids.ownBlock).getD Rb] id ps.length wa := by
    obtain ⟨cur, hcur⟩ := HS.out.tR
    have hblk : ∀ b, b < w.heap.size → wa.heap[b]? = (w.setCell ⟨Rb, 16, none⟩ (.int .u64 ((ps.length : Int) + 1))).heap[b]? := fun b hb => by
      subst hwa
      rw [Deep.blk_alloc_lt _ _ _ (by simp; omega), Deep.blk_alloc_lt _ _ _ (by simp; omega)]
    refine ⟨?_, ?_, ⟨_, (hblk Rb lR).trans (heap_setCell_same w Rb 16 cur 39 _ hcur)⟩, fun j hj => ?_, ?_, ?_, ?_⟩
    · subst hwa
      exact (((Chg.refl _ w).setCell (by simp) _).alloc _).alloc _
    · subst hwa; simp
    · exact (World.cell?_of_block (w := w.setCell ⟨Rb, 16, none⟩ (.int .u64 ((ps.length : Int) + 1))) (hblk Rb lR)).trans (World.cell?_setCell_other _ _ _ _ (fun e => hj (by injection e with _ e; exact e.symm)))
    · exact (World.cell?_of_block (w := w.setCell ⟨Rb, 16, none⟩ (.int .u64 ((ps.length : Int) + 1))) (hblk Rb lR)).trans (World.cell?_setCell_same _ _ _ c16)
    · subst hwa
      simp [go_sem]
    · subst hwa
      simp [go_sem]
  have hA1 : Chg [Rb] w wa := by
    subst hwa
    exact (((Chg.refl [Rb] w).setCell (by simp) _).alloc _).alloc _
  clear hwa c16 fR
  have HRt := HS.out.rt
  have hRt : Hid (Rt w B Rb sf vids ids pm um nm mk ps [] 0) := HRt
  have c1 : w.cell? ⟨Rb, 1, none⟩ = some (.map (some pm)) := HRt.c1
  have c2 : w.cell? ⟨Rb, 2, none⟩ = some (.map (some um)) := HRt.c2
  have c0 : w.cell? ⟨Rb, 0, none⟩ = some vids := HRt.c0
  have HC : Hid (w.cell? ⟨Rb, 1, none⟩ = some (.map (some pm)) ∧ w.cell? ⟨Rb, 2, none⟩ = some (.map (some um)) ∧ w.cell? ⟨Rb, 0, none⟩ = some vids) := ⟨c1, c2, c0⟩
  have hpR : pm ≠ Rb := fun e => mapF_ne2 (t := 39) HRt.pmap _ (by rw [e]; exact HS.out.tR.choose_spec)
  have huR : um ≠ Rb := fun e => mapF_ne2 (t := 39) HRt.umap _ (by rw [e]; exact HS.out.tR.choose_spec)
  have hpu : pm ≠ um := by have := HS.out.nd; simp only [List.nodup_cons, List.mem_cons, not_or] at this; exact this.1.1
  have hvg : ∀ g, vids.ownBlock = some g → g ≠ Rb ∧ g ≠ um ∧ g ≠ pm ∧ g < w.heap.size ∧ B ≤ g := fun g hg => by
    obtain ⟨c, hc⟩ := HRt.hids.typed hg
    refine ⟨fun e => ?_, fun e => mapF_ne2 (t := 22) HRt.umap c (by rw [← e]; exact hc), fun e => mapF_ne2 (t := 22) HRt.pmap c (by rw [← e]; exact hc), (HRt.hids.lt hg).2, (HRt.hids.lt hg).1⟩
    obtain ⟨c', hc'⟩ := HS.out.tR
    exact cells_ne2 (t' := 39) hc (by decide) c' (by rw [e]; exact hc')
  have HX : Hid (∀ b, b ∈ [Rb, um, pm, (vids.ownBlock).getD Rb] → b = Rb ∨ b = um ∨ b = pm ∨ vids.ownBlock = some b) := fun b hb => by
    simp at hb
    rcases hb with h | h | h | h
    · exact .inl h
    · exact .inr (.inl h)
    · exact .inr (.inr (.inl h))
    · cases hv : vids.ownBlock with
      | none => rw [hv] at h; exact .inl h
      | some g => rw [hv] at h; simp at h; exact .inr (.inr (.inr (by rw [h])))
  have HVg : Hid (∀ g, vids.ownBlock = some g → g ≠ Rb ∧ g ≠ um ∧ g ≠ pm ∧ g < w.heap.size ∧ B ≤ g) := hvg
  have lpm := HRt.pmap.lt
  have lum := HRt.umap.lt
  have hpmA : MapF wa pm (pmF ps) ps.length := HRt.pmap.of_block (hA1.block pm lpm (by simpa using hpR))
  have humA : MapF wa um (fun a => if a ∈ ([] : List Int) then some (.bool true) else none) 0 := HRt.umap.of_block (hA1.block um lum (by simpa using huR))
  have hidsA : Sl E64 22 wa B vids ids := HRt.hids.of_block (fun g hg => hA1.block g (hvg g hg).2.2.2.1 (by simpa using (hvg g hg).1))
  have hpn : pmF ps id = none := by
    unfold pmF
    rw [List.find?_eq_none.2 (fun p hp => by simpa using HNew.out p hp)]
    rfl
  have HPm : Hid (MapF wa pm (pmF ps) ps.length) := hpmA
  have HUm : Hid (MapF wa um (fun a => if a ∈ ([] : List Int) then some (.bool true) else none) 0) := humA
  have HId : Hid (Sl E64 22 wa B vids ids) := hidsA
  have HPn : Hid (pmF ps id = none) := hpn
  have HA : Hid (SB w Rb [Rb, um, pm, (vids.ownBlock).getD Rb] id ps.length wa) := hA
  have hlk : ∀ q, (Instr.lookup 27 (.map (some pm)) (.int .u64 id) false).run Yba.prog (wa.drewN q) = .ok (.pointer none) (wa.drewN q) := fun q => by
    have := (hpmA.later (w' := wa.drewN q) (below_drewN (Below.refl _ _) q)).look Yba.underlying27 (zero74 _) hid
    rw [hpn] at this
    exact this
  have b0 := hA.b0
  have b1 := hA.b1
  have r1 : wa.cell? ⟨Rb, 1, none⟩ = some (.map (some pm)) := (hA.rc 1 (by omega)).trans HC.out.1
  clear hA hA1 HRt c0 c1 c2 hvg hpmA humA hidsA hpn
  refine wp_seq_k ?_
  intro K hK
  have HK := show Hid _ from hK
  clear hK
  go_quiet (fail)
  refine HK.out _ _ ?_
  clear HK K
  generalize hq : wa.drewN _ = wq
  have hbq : Below wa.heap.size wa wq := by subst hq; exact below_drewN (Below.refl _ _) _
  clear hq hlk b0 b1 r1
  have HQ : Hid (SB w Rb [Rb, um, pm, (vids.ownBlock).getD Rb] id ps.length wq) := HA.out.later lR hbq
  have HPmQ : Hid (MapF wq pm (pmF ps) ps.length) := HPm.out.later hbq
  have HUmQ : Hid (MapF wq um (fun a => if a ∈ ([] : List Int) then some (.bool true) else none) 0) := HUm.out.later hbq
  have HIdQ : Hid (Sl E64 22 wq B vids ids) := HId.out.later hbq
  clear hbq HPm HUm HId HA
  have b0 := HQ.out.b0
  have r16 := HQ.out.r16
  go_wp2_with fail
  refine (newPeer_any st ((ps.length : Int) + 1) wq).mono ?_
  rintro e w2 ⟨rfl, hs2, hb2, m1, m2, m3⟩
  simp only [peerV]
  clear b0 r16
  have h2l : w2.heap.size = wq.heap.size + 4 := hs2
  go_wp2_with fail
  generalize hwd : World.alloc _ _ = wd
  have hbd : Below wq.heap.size wq wd := by subst hwd; exact hb2.trans (nb (Below.refl _ _) (by omega) _)
  have hPb : wd.heap[wq.heap.size + 4]? = some (.cells #[.int .u8 st, .int .u64 ((ps.length : Int) + 1), .int .u64 0, .slice none 0 0, .int .u64 0, .slice none 0 0, .bool false, .map (some (wq.heap.size + 1)), .map (some (wq.heap.size + 2)), .map (some (wq.heap.size + 3)), .bool false] 37 (0, 0)) := by
    subst hwd
    rw [← h2l]
    exact Deep.blk_alloc_new _ _
  have hsd : wd.heap.size = wq.heap.size + 5 := by subst hwd; simp; omega
  have hb2d : Below w2.heap.size w2 wd := by subst hwd; exact nb (Below.refl _ _) (Nat.le_refl _) _
  clear hwd
  have HD : Hid (SB w Rb [Rb, um, pm, (vids.ownBlock).getD Rb] id ps.length wd) := HQ.out.later lR hbd
  have HPmD : Hid (MapF wd pm (pmF ps) ps.length) := HPmQ.out.later hbd
  have HUmD : Hid (MapF wd um (fun a => if a ∈ ([] : List Int) then some (.bool true) else none) 0) := HUmQ.out.later hbd
  have HIdD : Hid (Sl E64 22 wd B vids ids) := HIdQ.out.later hbd
  have HNw : Hid (wd.heap[wq.heap.size + 4]? = some (.cells #[.int .u8 st, .int .u64 ((ps.length : Int) + 1), .int .u64 0, .slice none 0 0, .int .u64 0, .slice none 0 0, .bool false, .map (some (wq.heap.size + 1)), .map (some (wq.heap.size + 2)), .map (some (wq.heap.size + 3)), .bool false] 37 (0, 0)) ∧ MapF wd (wq.heap.size + 1) (fun _ => none) 0 ∧ MapF wd (wq.heap.size + 2) (fun _ => none) 0 ∧ MapF wd (wq.heap.size + 3) (fun _ => none) 0) := ⟨hPb, m1.later hb2d, m2.later hb2d, m3.later hb2d⟩
  have hszq := HQ.out.sz
  clear HQ HPmQ HUmQ HIdQ hbd hPb hb2d m1 m2 m3 hb2 hs2 h2l
  -- the word of the unmet
  obtain ⟨we, hdel, hume, hge⟩ := (HUmD.out.later (w' := wd.drewN 1) (below_drewN (Below.refl _ _) 1)).drop Yba.underlying28 hid 0
  have HE : Hid (SB w Rb [Rb, um, pm, (vids.ownBlock).getD Rb] id ps.length we) := (HD.out.later lR (below_drewN (Below.refl _ _) 1)).step lR (Chg.of_grown hge (X := [um]) (fun k hk => by injection hk with hk; simp [hk])) (by simp; exact ⟨huR, lum⟩)
  have hge' : ∀ b, b < wd.heap.size → b ≠ um → we.heap[b]? = wd.heap[b]? := fun b hb hne => hge.block b hb (fun e => hne (by injection e))
  have hse : wd.heap.size ≤ we.heap.size := hge.size
  have HPmE : Hid (MapF we pm (pmF ps) ps.length) := HPmD.out.of_block (hge' pm HPmD.out.lt hpu)
  have HUmE : Hid (MapF we um (fun _ => none) 0) := by
    have : upd (fun a => if a ∈ ([] : List Int) then some (Value.bool true) else none) id none = fun _ => none := by funext x; simp [upd]
    rw [this] at hume
    show MapF we um (fun _ => none) 0
    simpa using hume
  have HIdE : Hid (Sl E64 22 we B vids ids) := HIdD.out.of_block (fun g hg => hge' g (by have := (HVg.out g hg).2.2.2.1; omega) (HVg.out g hg).2.1)
  have HNwE : Hid (we.heap[wq.heap.size + 4]? = some (.cells #[.int .u8 st, .int .u64 ((ps.length : Int) + 1), .int .u64 0, .slice none 0 0, .int .u64 0, .slice none 0 0, .bool false, .map (some (wq.heap.size + 1)), .map (some (wq.heap.size + 2)), .map (some (wq.heap.size + 3)), .bool false] 37 (0, 0)) ∧ MapF we (wq.heap.size + 1) (fun _ => none) 0 ∧ MapF we (wq.heap.size + 2) (fun _ => none) 0 ∧ MapF we (wq.heap.size + 3) (fun _ => none) 0) := ⟨(hge' _ (by omega) (by omega)).trans HNw.out.1, HNw.out.2.1.of_block (hge' _ (by omega) (by omega)), HNw.out.2.2.1.of_block (hge' _ (by omega) (by omega)), HNw.out.2.2.2.of_block (hge' _ (by omega) (by omega))⟩
  have b0 : wd.drew.cell? ⟨w.heap.size, 0, none⟩ = some (.pointer (some ⟨Rb, 0, none⟩)) := HD.out.b0
  have b1 : wd.drew.cell? ⟨w.heap.size + 1, 0, none⟩ = some (.int .u64 id) := HD.out.b1
  have r2 : wd.drew.cell? ⟨Rb, 2, none⟩ = some (.map (some um)) := (HD.out.rc 2 (by omega)).trans HC.out.2.1
  have hdel' : (Builtin.delete_ #[28, 22] 0 #[.map (some um), .int .u64 id]).run Yba.prog wd.drew = .ok (.tuple #[]) we := hdel
  clear hge hge' hume hdel HPmD HUmD HIdD HNw HD
  refine region_tail2 5 (by kernel_rfl) ?_
  intro KK hKK
  simp only [List.take_succ_cons, List.take_zero]
  repeat (refine wpStill_want rfl (fun K hK => ?_); go_simp; refine hK _ ?_; clear hK K)
  refine wpStill_nil ?_
  refine hKK _ ?_
  clear hKK KK
  simp only [List.drop_succ_cons, List.drop_zero]
  go_wp2_with fail
  clear b0 b1 r2 hdel'
  -- the peer's entry
  obtain ⟨wf, hput, hpmf, hgf⟩ := (HPmE.out.later (w' := we.drewN 1) (below_drewN (Below.refl _ _) 1)).store Yba.underlying27 (by unfold maxLen; omega) hid (.pointer (some ⟨wq.heap.size + 4, 0, none⟩))
  have HF : Hid (SB w Rb [Rb, um, pm, (vids.ownBlock).getD Rb] id ps.length wf) := (HE.out.later lR (below_drewN (Below.refl _ _) 1)).step lR (Chg.of_grown hgf (X := [pm]) (fun k hk => by injection hk with hk; simp [hk])) (by simp; exact ⟨hpR, lpm⟩)
  have hgf' : ∀ b, b < we.heap.size → b ≠ pm → wf.heap[b]? = we.heap[b]? := fun b hb hne => hgf.block b hb (fun e => hne (by injection e))
  have hsf : we.heap.size ≤ wf.heap.size := hgf.size
  have HPmF : Hid (MapF wf pm (upd (pmF ps) id (some (.pointer (some ⟨wq.heap.size + 4, 0, none⟩)))) (ps.length + 1)) := by
    rw [HPn.out] at hpmf
    show MapF wf pm _ _
    simpa using hpmf
  have HUmF : Hid (MapF wf um (fun _ => none) 0) := HUmE.out.of_block (hgf' um HUmE.out.lt (fun e => hpu e.symm))
  have HIdF : Hid (Sl E64 22 wf B vids ids) := HIdE.out.of_block (fun g hg => hgf' g (by have := (HVg.out g hg).2.2.2.1; omega) (HVg.out g hg).2.2.1)
  have HNwF : Hid (wf.heap[wq.heap.size + 4]? = some (.cells #[.int .u8 st, .int .u64 ((ps.length : Int) + 1), .int .u64 0, .slice none 0 0, .int .u64 0, .slice none 0 0, .bool false, .map (some (wq.heap.size + 1)), .map (some (wq.heap.size + 2)), .map (some (wq.heap.size + 3)), .bool false] 37 (0, 0)) ∧ MapF wf (wq.heap.size + 1) (fun _ => none) 0 ∧ MapF wf (wq.heap.size + 2) (fun _ => none) 0 ∧ MapF wf (wq.heap.size + 3) (fun _ => none) 0) := ⟨(hgf' _ (by omega) (by omega)).trans HNwE.out.1, HNwE.out.2.1.of_block (hgf' _ (by omega) (by omega)), HNwE.out.2.2.1.of_block (hgf' _ (by omega) (by omega)), HNwE.out.2.2.2.of_block (hgf' _ (by omega) (by omega))⟩
  have b0 : we.drew.cell? ⟨w.heap.size, 0, none⟩ = some (.pointer (some ⟨Rb, 0, none⟩)) := HE.out.b0
  have b1 : we.drew.cell? ⟨w.heap.size + 1, 0, none⟩ = some (.int .u64 id) := HE.out.b1
  have r1 : we.drew.cell? ⟨Rb, 1, none⟩ = some (.map (some pm)) := (HE.out.rc 1 (by omega)).trans HC.out.1
  have hput' : (Instr.mapUpdate 27 (.map (some pm)) (.int .u64 id) (.pointer (some ⟨wq.heap.size + 4, 0, none⟩))).run Yba.prog we.drew = .ok () wf := hput
  clear hgf hgf' hpmf hput HPmE HUmE HIdE HNwE HE
  refine region_tail2 6 (by kernel_rfl) ?_
  intro KK hKK
  simp only [List.take_succ_cons, List.take_zero]
  repeat (refine wpStill_want rfl (fun K hK => ?_); go_simp; refine hK _ ?_; clear hK K)
  refine wpStill_nil ?_
  refine hKK _ ?_
  clear hKK KK
  simp only [List.drop_succ_cons, List.drop_zero]
  have b0 := HF.out.b0
  have r0 : wf.cell? ⟨Rb, 0, none⟩ = some vids := (HF.out.rc 0 (by omega)).trans HC.out.2.2
  obtain ⟨va, vc, hvids, _⟩ := HIdF.out.open
  have HVs : Hid (vids = .slice va ids.length vc) := hvids
  rw [hvids] at r0
  clear hvids
  go_wp2_with fail
  refine (search_any 25 (.pointer (some ⟨w.heap.size, 0, none⟩)) (.pointer (some ⟨w.heap.size + 1, 0, none⟩)) (fun j => decide (ids[j]?.getD 0 ≥ id)) ids.length (by omega) wf enter25 (fun j k hjk hk hj => ?_) (fun j wx hj hbx => ?_)).mono ?_
  · have h1 : ids[j]? = some ids[j] := List.getElem?_eq_getElem (by omega)
    have h2 : ids[k]? = some ids[k] := List.getElem?_eq_getElem hk
    rw [h1] at hj
    rw [h2]
    have hj' : id ≤ ids[j] := by simpa using hj
    have : ids[j] ≤ ids[k] := by
      rcases Nat.eq_or_lt_of_le hjk with e | e
      · subst e; exact Int.le_refl _
      · exact Int.le_of_lt (List.pairwise_iff_getElem.1 HR.out j k (by omega) hk e)
    simp
    omega
  · exact setFn_any ids id w.heap.size (w.heap.size + 1) Rb vids B j wx (HIdF.out.later hbx) hj ((hbx.cell (p := ⟨w.heap.size, 0, none⟩) (by have := HF.out.sz; simp; omega)).trans HF.out.b0) ((hbx.cell (p := ⟨w.heap.size + 1, 0, none⟩) (by have := HF.out.sz; simp; omega)).trans HF.out.b1) ((hbx.cell (p := ⟨Rb, 0, none⟩) (by have := HF.out.sz; simp; omega)).trans ((HF.out.rc 0 (by omega)).trans HC.out.2.2))
  rintro e wg ⟨i, rfl, hi, hlo, hhi, hbg⟩
  clear b0 b1 r1 r0 hput'
  have HG : Hid (SB w Rb [Rb, um, pm, (vids.ownBlock).getD Rb] id ps.length wg) := HF.out.later lR hbg
  have HPmG : Hid (MapF wg pm (upd (pmF ps) id (some (.pointer (some ⟨wq.heap.size + 4, 0, none⟩)))) (ps.length + 1)) := HPmF.out.later hbg
  have HUmG : Hid (MapF wg um (fun _ => none) 0) := HUmF.out.later hbg
  have HIdG : Hid (Sl E64 22 wg B vids ids) := HIdF.out.later hbg
  have HNwG : Hid (wg.heap[wq.heap.size + 4]? = some (.cells #[.int .u8 st, .int .u64 ((ps.length : Int) + 1), .int .u64 0, .slice none 0 0, .int .u64 0, .slice none 0 0, .bool false, .map (some (wq.heap.size + 1)), .map (some (wq.heap.size + 2)), .map (some (wq.heap.size + 3)), .bool false] 37 (0, 0)) ∧ MapF wg (wq.heap.size + 1) (fun _ => none) 0 ∧ MapF wg (wq.heap.size + 2) (fun _ => none) 0 ∧ MapF wg (wq.heap.size + 3) (fun _ => none) 0) := ⟨(hbg.block _ (by omega)).trans HNwF.out.1, HNwF.out.2.1.later hbg, HNwF.out.2.2.1.later hbg, HNwF.out.2.2.2.later hbg⟩
  have HLo : Hid ((∀ k, k < i → decide (ids[k]?.getD 0 ≥ id) = false) ∧ (∀ k, i ≤ k → k < ids.length → decide (ids[k]?.getD 0 ≥ id) = true)) := ⟨hlo, hhi⟩
  have hsg : wf.heap.size ≤ wg.heap.size := hbg.size
  clear hlo hhi hbg HPmF HUmF HIdF HNwF HF
  have HTd : Hid ((ids.take i ++ id :: ids.drop i).Pairwise (· < ·) ∧ ∀ a, a ∈ ids.take i ++ id :: ids.drop i ↔ a = id ∨ a ∈ ids) := take_drop_in HR.out hi (fun hmem => by
    obtain ⟨_, q, hq⟩ := hRt.out.uids id hmem
    exact HNew.out q (List.mem_of_find?_eq_some hq) (find_id hq)) HLo.out.1 HLo.out.2
  have HCall : Hid (∀ n, Calls Yba.prog 26 #[.slice va ids.length vc, .int .i64 (i : Int), .int .u64 id] (wg.drewN n) fun e w' => InsP E64 22 (wg.drewN n) B vids (ids.take i ++ id :: ids.drop i) e w') := fun n => by
    have := insert64_any ids i id B vids (wg.drewN n) (HIdG.out.later (below_drewN (Below.refl _ _) n)) (by have := HG.out.chg.size; exact Nat.le_trans hB this) hi (by omega)
    rwa [HVs.out] at this ⊢
  have b0 := HG.out.b0
  have b1 := HG.out.b1
  have r0 : wg.cell? ⟨Rb, 0, none⟩ = some (.slice va ids.length vc) := by rw [← HVs.out]; exact (HG.out.rc 0 (by omega)).trans HC.out.2.2
  go_wp2_with fail
  go_region_with (
    (go_at_call 26
     refine (HCall.out 1).mono ?_
     rintro e wh ⟨v', rfl, hsl, hgh, hloc⟩
     have HH : Hid (SB w Rb [Rb, um, pm, (vids.ownBlock).getD Rb] id ps.length wh) := (HG.out.later lR (below_drewN (Below.refl _ _) 1)).step lR (Chg.of_grown hgh (X := (vids.ownBlock).toList) (fun k hk => by rw [hk]; simp)) (fun y hy => by
       have hy' : vids.ownBlock = some y := by cases hv : vids.ownBlock with | none => rw [hv] at hy; simp at hy | some g => rw [hv] at hy; simp at hy; rw [hy]
       refine ⟨by rw [hy']; simp, (HVg.out y hy').1, (HVg.out y hy').2.2.2.1⟩)
     have HGh : Hid (wg.grownBy wh vids.ownBlock) := ⟨hgh.os, hgh.tape, hgh.output, hgh.size, hgh.block⟩
     have HSl : Hid (Sl E64 22 wh B v' (ids.take i ++ id :: ids.drop i) ∧ Loc wg vids v') := ⟨hsl, hloc⟩
     have b0' := HH.out.b0
     have r0' : wh.cell? ⟨Rb, 0, none⟩ = some vids := (HH.out.rc 0 (by omega)).trans HC.out.2.2
     have f0' : wh.frozen? ⟨Rb, 0, none⟩ = false := by obtain ⟨c, hc⟩ := HH.out.tR; simp [World.frozen?, hc]
     obtain ⟨na, nl, nc, hv'⟩ : ∃ na nl nc, v' = .slice na nl nc := by obtain ⟨x, y, h, _⟩ := hsl.open; exact ⟨_, _, _, h⟩
     subst hv'
     clear hsl hgh hloc))
  all_goals
    go_wp2_with fail
    go_ret
    exact set_fin HS.out hid HNew.out hst hB HH.out HX.out HVg.out hpR huR HGh.out (by omega) (by omega) HPmG.out HUmG.out HNwG.out HSl.out.1 HSl.out.2 HTd.out.1 HTd.out.2
end Go.Proofs.Ybulkdkqw.lawS5586AWhole
