import Derived.Test.YbulkdkqwQRt
namespace Go.Proofs.Ybulkdkqw.lawS5586AWhole
open Go.ChangeShapes Go.WideShapes Go.ChangeAt Go.RowKit

section
variable {w : World} {B Rb : Nat} {sf : Int} {vids : Value} {ids : List Int} {pm um nm mk : Nat} {ps : List Peer} {unm : List Int} {ucnt : Nat}

/-- May the peer of this ID lack the message? -/
def lackId (ps : List Peer) (name seq frm a : Int) : Bool := match ps.find? (fun p => p.id == a) with
  | some p => lackB p.st a name seq frm
  | none => false

/-- A slice made, nothing old turned. -/
def Back64 (L : List Int) (w : World) (e : Ending) (w' : World) : Prop := ∃ v, e = .returned v ∧ Sl E64 22 w' w.heap.size v L ∧ Below w.heap.size w w'

theorem grown_below {w w' : World} {B : Nat} {r : Option Nat} (h : w.grownBy w' r) (hr : ∀ k, r = some k → B ≤ k) (hB : B ≤ w.heap.size) : Below B w w' :=
  ⟨h.os, h.tape, h.output, h.size, fun k hk => h.block k (by omega) (fun e => by have := hr k e.symm; omega)⟩

theorem find_id {ps : List Peer} {a : Int} {p : Peer} (h : ps.find? (fun q => q.id == a) = some p) : p.id = a := by
  have := List.find?_some h
  simpa using this

set_option maxRecDepth 100000 in
set_option maxHeartbeats 1000000 in
/-- lacking. -/
theorem lacking_any (h : Rt w B Rb sf vids ids pm um nm mk ps unm ucnt) (name seq frm : Int) (hn : U name) (hl : ids.length ≤ 2000) :
    Calls Yba.prog 43 #[.pointer (some ⟨Rb, 0, none⟩), .int .u64 name, .int .u64 seq, .int .u64 frm] w fun e w' => Back64 (ids.filter (lackId ps name seq frm)) w e w' := by
  have HRt : Hid (Rt w B Rb sf vids ids pm um nm mk ps unm ucnt) := h
  have c0 := h.c0
  obtain ⟨ao, cap, rfl, hop⟩ := h.hids.open
  have HOp : Hid (0 < ids.length → ∃ g, ao = some ⟨g, 0, none⟩ ∧ g < w.heap.size ∧ ∀ (i : Nat) (a : Int), ids[i]? = some a → w.cell? ⟨g, i, none⟩ = some (.int .u64 a)) := fun h0 => by
    obtain ⟨g, h1, _, h2, _, _, h3⟩ := hop h0
    exact ⟨g, h1, h2, fun i a hi => by have := h3 i a hi 0 _ rfl; simpa [E64] using this⟩
  clear h hop
  go_enter Yba.func43, Yba.ntmps43
  go_wp2_with fail
  clear c0
  go_loopw [9, 17] (fun v i wr => ∃ k : Nat, k ≤ ids.length ∧ i = .int .i64 k ∧ Sl E64 22 wr w.heap.size v ((ids.take k).filter (lackId ps name seq frm)) ∧ Below w.heap.size w wr) (fun _ i _ => ids.length - (intOf i).toNat)
  case atStart => exact ⟨0, Nat.zero_le _, rfl, Sl.nil _ _, Below.refl _ _⟩
  case round =>
    obtain ⟨k, hk, rfl, hv, hb⟩ := hrel
    have HV : Hid (Sl E64 22 wr w.heap.size u9 ((ids.take k).filter (lackId ps name seq frm))) := hv
    have HB : Hid (Below w.heap.size w wr) := hb
    clear hv
    by_cases hlt : k < ids.length
    · obtain ⟨g, rfl, hgl, hcell⟩ := HOp.out (by omega)
      obtain ⟨a, ha⟩ : ∃ a, ids[k]? = some a := ⟨_, List.getElem?_eq_getElem hlt⟩
      have d0 := (hb.cell (p := ⟨g, k, none⟩) hgl).trans (hcell k a ha)
      obtain ⟨hua, p, hp⟩ := HRt.out.uids a (List.mem_of_getElem? ha)
      have hpid := find_id hp
      have HP : Hid (ps.find? (fun q => q.id == a) = some p) := hp
      have HA : Hid (ids[k]? = some a ∧ k < ids.length) := ⟨ha, hlt⟩
      have hcall := mayLack_any (p := p) (HRt.out.later hb) name seq frm (by rw [hpid]; exact hp) (by rw [hpid]; exact hua) hn
      rw [hpid] at hcall
      have HC : Hid (Calls Yba.prog 59 #[.pointer (some ⟨Rb, 0, none⟩), .int .u64 a, .int .u64 name, .int .u64 seq, .int .u64 frm] wr fun e w' => e = .returned (.bool (lackB p.st a name seq frm)) ∧ w' = wr) := hcall
      have hf : (ids.take (k + 1)).filter (lackId ps name seq frm) = (ids.take k).filter (lackId ps name seq frm) ++ (if lackB p.st a name seq frm then [a] else []) := by
        rw [List.take_add_one, ha, List.filter_append]
        congr 1
        simp only [Option.toList_some, List.filter_cons, List.filter_nil]
        rw [show lackId ps name seq frm a = lackB p.st a name seq frm by simp [lackId, hp]]
      have HF : Hid ((ids.take (k + 1)).filter (lackId ps name seq frm) = (ids.take k).filter (lackId ps name seq frm) ++ (if lackB p.st a name seq frm then [a] else [])) := hf
      clear hcell ha hp hpid hcall hf
      go_wp2_with fail
      refine HC.out.mono ?_
      rintro e w1 ⟨rfl, rfl⟩
      cases hlb : lackB p.st a name seq frm with
      | true =>
        have HLB : Hid (lackB p.st a name seq frm = true) := hlb
        obtain ⟨v', w', hrun, hS, hg, _⟩ := HV.out.push (T := 24) Yba.underlying24 info22 rfl (by decide) HB.out.size (by have := List.length_filter_le (lackId ps name seq frm) (ids.take k); simp at this; omega) (by decide) a #[.int .u64 a] rfl
        have HS : Hid (Sl E64 22 w' w.heap.size v' ((ids.take k).filter (lackId ps name seq frm) ++ [a])) := hS
        have HB' : Hid (Below w.heap.size w w') := HB.out.trans (grown_below hg (fun j hj => (HV.out.lt hj).1) HB.out.size)
        clear hS hg
        go_wp2_with (at_builtin; refine wpList_append_run 24 hrun rfl _ _ rfl rfl rfl rfl ?_)
        go_roundw
        case rel =>
          refine ⟨k + 1, by have := HA.out.2; omega, by go_num, ?_, HB'.out⟩
          rw [HF.out, HLB.out]
          exact HS.out
        case measure => have := HA.out.2; simp [intOf]; omega
      | false =>
        have HLB : Hid (lackB p.st a name seq frm = false) := hlb
        go_wp2_with fail
        go_roundw
        case rel =>
          refine ⟨k + 1, by have := HA.out.2; omega, by go_num, ?_, HB.out⟩
          rw [HF.out, HLB.out]
          simpa using HV.out
        case measure => have := HA.out.2; simp [intOf]; omega
    · have hkn : k = ids.length := by omega
      subst hkn
      clear hlt hb
      go_wp2_with fail
      go_ret
      refine ⟨_, rfl, ?_, HB.out⟩
      have := HV.out
      rwa [List.take_length] at this

set_option maxRecDepth 100000 in
/-- cut.find on an empty cut. -/
theorem cutFind_any (n id : Int) (w : World) :
    Calls Yba.prog 61 #[.agg #[.int .u64 n, .slice none 0 0], .int .u64 id] w fun e w' => e = .returned (.tuple #[.agg #[.int .u64 0, .int .u64 0], .bool false]) ∧ Below w.heap.size w w' := by
  go_enter Yba.func61, Yba.ntmps61
  go_wp2_with fail
  generalize hwb : World.alloc _ _ = wb
  have hbb : Below w.heap.size w wb := by subst hwb; exact nb (nb (Below.refl _ _) (Nat.le_refl _) _) (Nat.le_refl _) _
  have z0 : wb.cell? ⟨w.heap.size + 1, 0, none⟩ = some (.int .u64 0) := by subst hwb; simp [go_sem]
  have z1 : wb.cell? ⟨w.heap.size + 1, 1, none⟩ = some (.int .u64 0) := by subst hwb; simp [go_sem]
  have f0 : wb.frozen? ⟨w.heap.size + 1, 0, none⟩ = false := by subst hwb; simp [go_sem]
  have f1 : wb.frozen? ⟨w.heap.size + 1, 1, none⟩ = false := by subst hwb; simp [go_sem]
  clear hwb
  go_loopw [11] (fun i wr => i = .int .i64 0 ∧ wr = wb) (fun _ _ => 0)
  case atStart => exact ⟨rfl, rfl⟩
  case round =>
    obtain ⟨rfl, rfl⟩ := hrel
    go_wp2_with fail
    simp [bodyPost, results, Yba.results61, go_sem, z0, z1]
    exact (hbb.setCell (by simp) _).setCell (by simp) _
end
end Go.Proofs.Ybulkdkqw.lawS5586AWhole
