import Derived.Test.YbulkdkqwQAwait
import Derived.Laws.IdiomRangeMap
namespace Go.Proofs.Ybulkdkqw.lawS5586AWhole
open Go.ChangeShapes Go.WideShapes Go.ChangeAt Go.RowKit

theorem info56 : (Yba.prog.info? 56).map (fun i => (i.zero, i.size)) = some (some (.agg #[.int .u64 0, .int .u64 0, .int .u64 0, .map none, .map none, .slice none 0 0]), 6) := by kernel_rfl

/-- An envelope as the law builds it: origin, interim name, seq. -/
structure Env where
  origin : Int
  interim : Int
  seq : Int
def Env.val (e : Env) : Value := .agg #[.int .u64 e.origin, .int .u64 e.interim, .int .u64 e.seq, .map none, .map none, .slice none 0 0]
/-- The series' name. -/
def Env.name (e : Env) : Int := if e.interim = 0 then e.origin else e.interim

/-- series. -/
theorem series_any (e : Env) (w : World) : Calls Yba.prog 29 #[e.val] w fun r w' => r = .returned (.int .u64 e.name) ∧ Below w.heap.size w w' := by
  simp only [Env.val]
  by_cases h : e.interim = 0
  · have hb : (e.interim != 0) = false := by simpa using h
    have HN : Hid (e.name = e.origin) := by show e.name = e.origin; simp [Env.name, h]
    clear h
    go_enter Yba.func29, Yba.ntmps29
    go_wp2_with fail
    go_ret
    exact ⟨by rw [HN.out]; rfl, nb (Below.refl _ _) (Nat.le_refl _) _⟩
  · have hb : (e.interim != 0) = true := by simpa using h
    have HN : Hid (e.name = e.interim) := by show e.name = e.interim; simp [Env.name, h]
    clear h
    go_enter Yba.func29, Yba.ntmps29
    go_wp2_with fail
    go_ret
    exact ⟨by rw [HN.out]; rfl, nb (Below.refl _ _) (Nat.le_refl _) _⟩

section
variable {w : World} {B Rb : Nat} {sf : Int} {vids : Value} {ids : List Int} {pm um nm mk : Nat} {ps : List Peer} {unm : List Int} {ucnt : Nat}

set_option maxRecDepth 100000 in
set_option maxHeartbeats 1000000 in
/-- claim of no counts. -/
theorem claim_any (h : Rt w B Rb sf vids ids pm um nm mk ps unm ucnt) {a : Int} (ha : U a) :
    Calls Yba.prog 46 #[.pointer (some ⟨Rb, 0, none⟩), .int .u64 a, .map none] w fun e w' => e = .returned (.tuple #[]) ∧ Below w.heap.size w w' := by
  have c1 := h.c1
  have hlk := h.pmap.look Yba.underlying27 (zero74 w) ha
  clear h
  cases hp : ps.find? (fun q => q.id == a) with
  | none =>
    simp [pmF, hp] at hlk
    go_enter Yba.func46, Yba.ntmps46
    go_wp2_with fail
    simp [bodyPost, results, Yba.results46]
    exact Below.refl _ _
  | some p =>
    simp [pmF, hp] at hlk
    have hrn := run_range_nilMap (P := Yba.prog) w 29 22 22 Yba.underlying29
    have hnx := run_next_nilMap (P := Yba.prog) w 0 0 0 #[]
    go_enter Yba.func46, Yba.ntmps46
    go_wp2_with fail
    go_loopw [19] (fun _ wr => wr = w.alloc (.mapIter none 0 #[] 0)) (fun _ _ => 0)
    case atStart => exact rfl
    case round =>
      subst hrel
      go_wp2_with fail
      simp [bodyPost, results, Yba.results46]
      exact nb (Below.refl _ _) (Nat.le_refl _) _

/-- keeper: a peer's own, mine, or none. -/
def keepAt (ps : List Peer) (sf : Int) (Rb : Nat) (a : Int) : Value := if a = sf then .pointer (some ⟨Rb, 5, none⟩) else (pmF ps a).getD (.pointer none)

/-- keeper. -/
theorem keeper_any (h : Rt w B Rb sf vids ids pm um nm mk ps unm ucnt) {a : Int} (ha : U a) :
    Calls Yba.prog 38 #[.pointer (some ⟨Rb, 0, none⟩), .int .u64 a] w fun e w' => e = .returned (keepAt ps sf Rb a) ∧ w' = w := by
  have c1 := h.c1
  have c3 := h.c3
  have hlk := h.pmap.look Yba.underlying27 (zero74 w) ha
  have HRt : Hid (Rt w B Rb sf vids ids pm um nm mk ps unm ucnt) := h
  clear h
  by_cases hs : a = sf
  · have hb : (a != sf) = false := by simpa using hs
    have HK : Hid (keepAt ps sf Rb a = .pointer (some ⟨Rb, 5, none⟩)) := by show keepAt ps sf Rb a = _; simp [keepAt, hs]
    clear hs
    go_enter Yba.func38, Yba.ntmps38
    go_wp2_with fail
    refine (replicaOf_any HRt.out ha).mono ?_
    rintro e w1 ⟨rfl, rfl⟩
    go_wp2_with fail
    go_ret
    exact ⟨by rw [HK.out]; rfl, rfl⟩
  · have hb : (a != sf) = true := by simpa using hs
    have HK : Hid (keepAt ps sf Rb a = (pmF ps a).getD (.pointer none)) := by show keepAt ps sf Rb a = _; simp [keepAt, hs]
    clear hs
    go_enter Yba.func38, Yba.ntmps38
    go_wp2_with fail
    refine (replicaOf_any HRt.out ha).mono ?_
    rintro e w1 ⟨rfl, rfl⟩
    go_wp2_with fail
    go_ret
    exact ⟨by rw [HK.out]; rfl, rfl⟩
end
end Go.Proofs.Ybulkdkqw.lawS5586AWhole
