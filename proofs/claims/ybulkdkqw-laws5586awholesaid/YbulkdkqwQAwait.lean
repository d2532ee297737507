import Derived.Test.YbulkdkqwQBridge
namespace Go.Proofs.Ybulkdkqw.lawS5586AWhole
open Go.ChangeShapes Go.WideShapes Go.ChangeAt Go.RowKit

section
variable {w : World} {B Rb : Nat} {sf : Int} {vids : Value} {ids : List Int} {pm um nm mk : Nat} {ps : List Peer} {unm : List Int} {ucnt : Nat}

/-- Does a message of p's still reach the others? -/
def reachB (ps : List Peer) (ids : List Int) (p : Peer) : Bool := (p.st == 0) || ((p.st == 1) && (bridgeF ps p.since ids != 0))

set_option maxRecDepth 100000 in
set_option maxHeartbeats 1000000 in
/-- reaches. -/
theorem reaches_any (h : Rt w B Rb sf vids ids pm um nm mk ps unm ucnt) {p : Peer} (hp : ps.find? (fun q => q.id == p.id) = some p) (hid : U p.id) (hl : ids.length ≤ 2000) :
    Calls Yba.prog 47 #[.pointer (some ⟨Rb, 0, none⟩), .int .u64 p.id] w fun e w' => e = .returned (.bool (reachB ps ids p)) ∧ Below w.heap.size w w' := by
  have c1 := h.c1
  have hlk := h.pmap.look Yba.underlying27 (zero74 w) hid
  simp [pmF, hp] at hlk
  have hpa := h.peers p (List.mem_of_find?_eq_some hp)
  have d0 := hpa.c0
  have hst0 := hpa.st0
  have hst2 := hpa.st2
  have HRt : Hid (Rt w B Rb sf vids ids pm um nm mk ps unm ucnt) := h
  have HP : Hid (ps.find? (fun q => q.id == p.id) = some p) := hp
  clear h hpa hp
  by_cases h0 : p.st = 0
  · have h0b : (p.st == 0) = true := by simpa using h0
    clear h0
    go_enter Yba.func47, Yba.ntmps47
    go_wp2_with fail
    go_ret
    exact ⟨by simp [reachB, h0b], Below.refl _ _⟩
  · have h0b : (p.st == 0) = false := by simpa using h0
    by_cases h1 : p.st = 1
    · have h1b : (p.st == 1) = true := by simpa using h1
      clear h0 h1
      go_enter Yba.func47, Yba.ntmps47
      go_wp2_with fail
      refine (bridge_any HRt.out HP.out hid hl).mono ?_
      rintro e w1 ⟨rfl, hb1⟩
      have HB1 : Hid (Below w.heap.size w w1) := hb1
      clear hb1
      go_wp2_with fail
      go_ret
      exact ⟨by simp [reachB, h0b, h1b], HB1.out⟩
    · have h1b : (p.st == 1) = false := by simpa using h1
      clear h0 h1
      go_enter Yba.func47, Yba.ntmps47
      go_wp2_with fail
      go_ret
      exact ⟨by simp [reachB, h0b, h1b], Below.refl _ _⟩

/-- Is there one yet to be met, but the name's own? -/
def awaitB (unm : List Int) (name : Int) : Bool := unm.any (fun u => u != name)

set_option maxRecDepth 100000 in
set_option maxHeartbeats 1000000 in
/-- awaited. -/
theorem awaited_any (h : Rt w B Rb sf vids ids pm um nm mk ps unm ucnt) {name : Int} (hn : U name) (hu : ∀ a ∈ unm, U a) :
    Calls Yba.prog 39 #[.pointer (some ⟨Rb, 0, none⟩), .int .u64 name] w fun e w' => e = .returned (.bool (awaitB unm name)) ∧ Below w.heap.size w w' := by
  have c2 := h.c2
  have HRt : Hid (Rt w B Rb sf vids ids pm um nm mk ps unm ucnt) := h
  obtain ⟨w0, hrun, hrg, hb0, hs0⟩ := h.umap.range Yba.underlying28
  have HU : Hid (∀ a ∈ unm, U a) := hu
  have HB0 : Hid (Below w.heap.size w w0) := hb0
  have HRg : Hid (RangeF w0 um w.heap.size ucnt (fun a => if a ∈ unm then some (.bool true) else none) (fun a => (if a ∈ unm then some (Value.bool true) else none).isSome) ucnt) := hrg
  clear h hrg hb0 hu
  go_enter Yba.func39, Yba.ntmps39
  go_wp2_with fail
  refine (replicaOf_any HRt.out hn).mono ?_
  rintro e w1 ⟨rfl, rfl⟩
  go_wp2_with fail
  clear hrun c2
  go_loopw [15] (fun _ wr => ∃ left cnt, RangeF wr um w1.heap.size ucnt (fun a => if a ∈ unm then some (.bool true) else none) left cnt ∧ Below w1.heap.size w1 wr ∧ ∀ a ∈ unm, left a = false → a = name) (fun _ wr => wr.rangeLeft um w1.heap.size)
  case atStart =>
    refine ⟨_, _, HRg.out, HB0.out, fun a ha hl => ?_⟩
    simp [ha] at hl
  case round =>
    obtain ⟨left, cnt, hrg, hb, hno⟩ := hrel
    have HB : Hid (Below w1.heap.size w1 wr) := hb
    have HN : Hid (∀ a ∈ unm, left a = false → a = name) := hno
    have hcnt := hrg.left_eq
    clear hb hno
    rcases hrg.next 0 with ⟨hl, hnx⟩ | ⟨a, v, w2, cnt', ha, hla, hF, hnx, hrg2, hlt, hg, hsz, hen⟩
    · have HL : Hid (awaitB unm name = false) := by
        show awaitB unm name = false
        unfold awaitB
        rw [List.any_eq_false]
        intro x hx
        rw [HN.out x hx (hl x (HU.out x hx))]
        simp
      clear hrg hcnt hl
      go_wp2_with fail
      go_ret
      exact ⟨by rw [HL.out]; rfl, HB.out⟩
    · have hmem : a ∈ unm := by
        by_cases hm : a ∈ unm
        · exact hm
        · simp [hm] at hF
      have HM : Hid (a ∈ unm) := hmem
      have HRg2 : Hid (RangeF w2 um w1.heap.size ucnt (fun a => if a ∈ unm then some (.bool true) else none) (fun x => left x && !(x == a)) cnt') := hrg2
      have HB2 : Hid (Below w1.heap.size w1 w2) := HB.out.trans (grown_below hg (fun k hk => by injection hk with hk; omega) HB.out.size)
      have HLt : Hid (cnt' < cnt ∧ wr.rangeLeft um w1.heap.size = cnt) := ⟨hlt, hcnt⟩
      clear hrg hrg2 hg hlt hcnt hmem hF
      by_cases hne : a = name
      · have hneb : (a != name) = false := by simpa using hne
        have HNe : Hid (a = name) := hne
        clear hne
        go_wp2_with fail
        go_roundw
        case rel =>
          refine ⟨_, _, HRg2.out, HB2.out, fun x hx hl => ?_⟩
          simp only [Bool.and_eq_false_iff, Bool.not_eq_false', beq_iff_eq] at hl
          rcases hl with hl | hl
          · exact HN.out x hx hl
          · rw [hl]; exact HNe.out
        case measure => rw [HRg2.out.left_eq, HLt.out.2]; exact HLt.out.1
      · have hneb : (a != name) = true := by simpa using hne
        have HT : Hid (awaitB unm name = true) := List.any_eq_true.2 ⟨a, HM.out, hneb⟩
        clear hne
        go_wp2_with fail
        go_ret
        exact ⟨by rw [HT.out]; rfl, HB2.out⟩
end
end Go.Proofs.Ybulkdkqw.lawS5586AWhole
