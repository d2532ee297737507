import Derived.Test.YbulkdkqwQKeep
namespace Go.Proofs.Ybulkdkqw.lawS5586AWhole
open Go.ChangeShapes Go.WideShapes Go.ChangeAt Go.RowKit

theorem zero74 (w : World) : (zeroValue 74).run Yba.prog w = .ok (.pointer none) w := by kernel_rfl
theorem zero22 (w : World) : (zeroValue 22).run Yba.prog w = .ok (.int .u64 0) w := by kernel_rfl
theorem zero68 (w : World) : (zeroValue 68).run Yba.prog w = .ok (.slice none 0 0) w := by kernel_rfl
theorem zero29 (w : World) : (zeroValue 29).run Yba.prog w = .ok (.map none) w := by kernel_rfl
theorem zero4 (w : World) : (zeroValue 4).run Yba.prog w = .ok (.bool false) w := by kernel_rfl

/-- A peer: its ID, state, when it was heard of, its block and the blocks of its three maps. -/
structure Peer where
  id : Int
  st : Int
  since : Int
  blk : Nat
  hb : Nat
  kb : Nat
  jb : Nat
deriving DecidableEq

def pmF (ps : List Peer) (a : Int) : Option Value := (ps.find? (fun p => p.id == a)).map (fun p => .pointer (some ⟨p.blk, 0, none⟩))

structure PeerAt (w : World) (p : Peer) : Prop where
  c0 : w.cell? ⟨p.blk, 0, none⟩ = some (.int .u8 p.st)
  c1 : w.cell? ⟨p.blk, 1, none⟩ = some (.int .u64 p.since)
  c4 : w.cell? ⟨p.blk, 4, none⟩ = some (.int .u64 0)
  c5 : w.cell? ⟨p.blk, 5, none⟩ = some (.slice none 0 0)
  c7 : w.cell? ⟨p.blk, 7, none⟩ = some (.map (some p.hb))
  c8 : w.cell? ⟨p.blk, 8, none⟩ = some (.map (some p.kb))
  c9 : w.cell? ⟨p.blk, 9, none⟩ = some (.map (some p.jb))
  c10 : w.cell? ⟨p.blk, 10, none⟩ = some (.bool false)
  has : MapF w p.hb (fun _ => none) 0
  joined : MapF w p.jb (fun _ => none) 0
  st0 : 0 ≤ p.st
  st2 : p.st ≤ 2

/-- What the router is, but for what is kept. -/
structure Rt (w : World) (B Rb : Nat) (sf : Int) (vids : Value) (ids : List Int) (pm um nm mk : Nat) (ps : List Peer) (unm : List Int) (ucnt : Nat) : Prop where
  c0 : w.cell? ⟨Rb, 0, none⟩ = some vids
  hids : Sl E64 22 w B vids ids
  c1 : w.cell? ⟨Rb, 1, none⟩ = some (.map (some pm))
  c2 : w.cell? ⟨Rb, 2, none⟩ = some (.map (some um))
  c3 : w.cell? ⟨Rb, 3, none⟩ = some (.int .u64 sf)
  c4 : w.cell? ⟨Rb, 4, none⟩ = some (.map (some nm))
  c13 : w.cell? ⟨Rb, 13, none⟩ = some (.map (some mk))
  pmap : MapF w pm (pmF ps) ps.length
  umap : MapF w um (fun a => if a ∈ unm then some (.bool true) else none) ucnt
  nmap : MapF w nm (fun _ => none) 0
  peers : ∀ p ∈ ps, PeerAt w p
  uids : ∀ a ∈ ids, U a ∧ ∃ p, ps.find? (fun p => p.id == a) = some p
  usf : U sf

section
variable {w w' : World} {B Rb : Nat} {sf : Int} {vids : Value} {ids : List Int} {pm um nm mk : Nat} {ps : List Peer} {unm : List Int} {ucnt : Nat}

theorem PeerAt.later {p : Peer} (h : PeerAt w p) (hb : Below w.heap.size w w') : PeerAt w' p := by
  have l : p.blk < w.heap.size := World.block_lt_of_cell? w _ h.c0
  exact ⟨(hb.cell (by exact l)).trans h.c0, (hb.cell (by exact l)).trans h.c1, (hb.cell (by exact l)).trans h.c4, (hb.cell (by exact l)).trans h.c5, (hb.cell (by exact l)).trans h.c7, (hb.cell (by exact l)).trans h.c8, (hb.cell (by exact l)).trans h.c9, (hb.cell (by exact l)).trans h.c10, h.has.later hb, h.joined.later hb, h.st0, h.st2⟩

theorem Rt.later (h : Rt w B Rb sf vids ids pm um nm mk ps unm ucnt) (hb : Below w.heap.size w w') : Rt w' B Rb sf vids ids pm um nm mk ps unm ucnt := by
  have l : Rb < w.heap.size := World.block_lt_of_cell? w _ h.c0
  exact ⟨(hb.cell (by exact l)).trans h.c0, h.hids.later hb, (hb.cell (by exact l)).trans h.c1, (hb.cell (by exact l)).trans h.c2, (hb.cell (by exact l)).trans h.c3, (hb.cell (by exact l)).trans h.c4, (hb.cell (by exact l)).trans h.c13, h.pmap.later hb, h.umap.later hb, h.nmap.later hb, fun p hp => (h.peers p hp).later hb, h.uids, h.usf⟩

theorem Rt.dr (h : Rt w B Rb sf vids ids pm um nm mk ps unm ucnt) (q : Nat) : Rt (w.drewN q) B Rb sf vids ids pm um nm mk ps unm ucnt := h.later (below_drewN (Below.refl _ _) q)

/-- replicaOf: no name is given. -/
theorem replicaOf_any (h : Rt w B Rb sf vids ids pm um nm mk ps unm ucnt) {a : Int} (ha : U a) :
    Calls Yba.prog 40 #[.pointer (some ⟨Rb, 0, none⟩), .int .u64 a] w fun e w' => e = .returned (.int .u64 a) ∧ w' = w := by
  have c4 := h.c4
  have hl := h.nmap.lookOk Yba.underlying29 (zero22 w) ha
  simp at hl
  clear h
  go_enter Yba.func40, Yba.ntmps40
  go_wp2_with fail
  go_ret
  exact ⟨rfl, rfl⟩

/-- mayLack. -/
def lackB (st id name seq sf : Int) : Bool := (id != name) && (id != sf) && (st != 2) && decide (0 < seq)

set_option maxRecDepth 100000 in
set_option maxHeartbeats 1000000 in
theorem mayLack_any (h : Rt w B Rb sf vids ids pm um nm mk ps unm ucnt) {p : Peer} (name seq frm : Int) (hp : ps.find? (fun q => q.id == p.id) = some p) (hid : U p.id) (hn : U name) :
    Calls Yba.prog 59 #[.pointer (some ⟨Rb, 0, none⟩), .int .u64 p.id, .int .u64 name, .int .u64 seq, .int .u64 frm] w fun e w' => e = .returned (.bool (lackB p.st p.id name seq frm)) ∧ w' = w := by
  have c1 := h.c1
  have hl := h.pmap.look Yba.underlying27 (zero74 w) hid
  simp [pmF, hp] at hl
  have hpa := h.peers p (List.mem_of_find?_eq_some hp)
  have d0 := hpa.c0
  have d7 := hpa.c7
  have hl2 := hpa.has.look Yba.underlying29 (zero22 w) hn
  simp at hl2
  have hst0 := hpa.st0
  have hst2 := hpa.st2
  have HRt : Hid (Rt w B Rb sf vids ids pm um nm mk ps unm ucnt) := h
  clear h hpa
  by_cases h1 : p.id = name
  · have h1b : (p.id != name) = false := by simpa using h1
    clear h1
    go_enter Yba.func59, Yba.ntmps59
    go_wp2_with fail
    refine (replicaOf_any HRt.out hn).mono ?_
    rintro e w1 ⟨rfl, rfl⟩
    go_wp2_with fail
    go_ret
    exact ⟨by simp [lackB, h1b], rfl⟩
  · have h1b : (p.id != name) = true := by simpa using h1
    by_cases h2 : p.id = frm
    · have h2b : (p.id != frm) = false := by simpa using h2
      clear h2
      go_enter Yba.func59, Yba.ntmps59
      go_wp2_with fail
      refine (replicaOf_any HRt.out hn).mono ?_
      rintro e w1 ⟨rfl, rfl⟩
      go_wp2_with fail
      go_ret
      exact ⟨by simp [lackB, h2b], rfl⟩
    · have h2b : (p.id != frm) = true := by simpa using h2
      by_cases h3 : p.st = 2
      · have h3b : (p.st != 2) = false := by simpa using h3
        clear h3
        go_enter Yba.func59, Yba.ntmps59
        go_wp2_with fail
        refine (replicaOf_any HRt.out hn).mono ?_
        rintro e w1 ⟨rfl, rfl⟩
        go_wp2_with fail
        go_ret
        exact ⟨by simp [lackB, h3b], rfl⟩
      · have h3b : (p.st != 2) = true := by simpa using h3
        go_enter Yba.func59, Yba.ntmps59
        go_wp2_with fail
        refine (replicaOf_any HRt.out hn).mono ?_
        rintro e w1 ⟨rfl, rfl⟩
        go_wp2_with fail
        go_ret
        exact ⟨by simp [lackB, h1b, h2b, h3b], rfl⟩
end
end Go.Proofs.Ybulkdkqw.lawS5586AWhole
