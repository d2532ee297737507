import Derived.Test.YbulkdkqwRows
import Derived.WalkKit
import Derived.ProofKit
import Derived.WalkSpells
import Derived.WalkSmall
import Derived.Handy
import Derived.RegionTactic
import Derived.ChangeAlike
import Derived.Deep.OwnRows
import Derived.Deep.RegionLaw
import Derived.Deep.RegionHeld3
import Derived.Deep.QuietTactic
import Derived.BigQuiet
import Derived.BigRegion
import Derived.Deep.DeepCutAuto
import Derived.Deep.CutBlock
import Derived.StillTail
import Derived.StillTailTactics
import Derived.Laws.AppendOwn
import Derived.Maps.RangeWalk
import Derived.Maps.OwnSet
namespace Go.Proofs.Ybulkdkqw.lawS5586AWhole
open Go.ChangeShapes Go.WideShapes Go.ChangeAt Go.RowKit

theorem keyed : Go.Maps.Keyed Yba.prog 22 := Go.Maps.int_keyed Yba.underlying22

/-- An element read as it is. -/
def rawR (v : Value) : Option (DataW Value × List MemPlace) := some (.held v, [])

/-- A key of the maps. -/
def U (a : Int) : Prop := 0 ≤ a ∧ a ≤ 18446744073709551615
theorem U.wf {a : Int} (h : U a) : (Lit.int .u64 a).wf = true := by
  obtain ⟨h1, h2⟩ := h
  simp [Lit.wf, IntKind.min, IntKind.max, IntKind.signed, IntKind.bits]; omega
theorem U.of_wf {a : Int} (h : (Lit.int .u64 a).wf = true) : U a := by
  simp [Lit.wf, IntKind.min, IntKind.max, IntKind.signed, IntKind.bits] at h
  exact ⟨by omega, by omega⟩
theorem U.key {a : Int} (h : U a) : keyOf Yba.prog 22 (.int .u64 a) = some (.int .u64 a) := Go.Maps.keyOf_int_mk Yba.underlying22 h.wf

/-- BLOCK b IS A MAP OF n ENTRIES: F a is what lies at key a. -/
def MapF (w : World) (b : Nat) (F : Int → Option Value) (n : Nat) : Prop :=
  ∃ D, w.ownsMap Yba.prog 22 rawR b n D ∧ Go.Maps.size D = n ∧ ∀ a, U a → Go.Maps.has D (.int .u64 a) = (F a).isSome ∧ ∀ z, D.atKey (.int .u64 a) (.held z) = .held ((F a).getD z)

section
variable {w w' : World} {b n : Nat} {F : Int → Option Value}

theorem MapF.lt (h : MapF w b F n) : b < w.heap.size := by obtain ⟨D, h1, _⟩ := h; exact h1.lt
theorem MapF.of_block (h : MapF w b F n) (e : w'.heap[b]? = w.heap[b]?) : MapF w' b F n := by
  obtain ⟨D, ⟨es, clock, hb, r⟩, h2⟩ := h
  exact ⟨D, ⟨es, clock, e.trans hb, r⟩, h2⟩
theorem MapF.later (h : MapF w b F n) (hb : Below w.heap.size w w') : MapF w' b F n := h.of_block (hb.block b h.lt)
theorem MapF.made (w : World) : MapF (w.alloc (.map #[] 0)) w.heap.size (fun _ => none) 0 :=
  ⟨.map [], World.ownsMap_made _ _ _ _, rfl, fun _ _ => ⟨rfl, fun _ => rfl⟩⟩

theorem MapF.look (h : MapF w b F n) {t e : TypeId} (ht : Yba.prog.underlying t = some (.map 22 e)) {z : Value} (hz : (zeroValue e).run Yba.prog w = .ok z w) {a : Int} (ha : U a) :
    (Instr.lookup t (.map (some b)) (.int .u64 a) false).run Yba.prog w = .ok ((F a).getD z) w := by
  obtain ⟨D, h1, _, h3⟩ := h
  obtain ⟨v, ps, hr, hv⟩ := h1.lookup keyed ht hz (zd := .held z) (zp := []) rfl ha.key
  rw [(h3 a ha).2 z] at hv
  simp [rawR] at hv
  rw [hr, hv.1]

theorem MapF.lookOk (h : MapF w b F n) {t e : TypeId} (ht : Yba.prog.underlying t = some (.map 22 e)) {z : Value} (hz : (zeroValue e).run Yba.prog w = .ok z w) {a : Int} (ha : U a) :
    (Instr.lookup t (.map (some b)) (.int .u64 a) true).run Yba.prog w = .ok (.tuple #[(F a).getD z, .bool (F a).isSome]) w := by
  obtain ⟨D, h1, _, h3⟩ := h
  obtain ⟨v, ps, hr, hv⟩ := h1.look_ok keyed ht hz (zd := .held z) (zp := []) rfl ha.key
  rw [(h3 a ha).2 z] at hv
  simp [rawR] at hv
  rw [hr, hv.1, (h3 a ha).1]

theorem MapF.len (h : MapF w b F n) {t e : TypeId} (ht : Yba.prog.underlying t = some (.map 22 e)) (ty : TypeId) :
    (Builtin.len_ #[t] ty #[.map (some b)]).run Yba.prog w = .ok (.int .i64 (n : Int)) w := by
  obtain ⟨D, h1, h2, _⟩ := h
  rw [h1.len ht ty, h2]

/-- A value put at a key. -/
def upd (F : Int → Option Value) (a : Int) (v : Option Value) (x : Int) : Option Value := if x = a then v else F x

theorem lit_ne {a c : Int} (h : c ≠ a) : (Lit.int .u64 c) ≠ (Lit.int .u64 a) := fun e => h (by injection e)

theorem isKeyLit {a : Int} (h : U a) : WideAt.IsKeyLit (.int .u64 a) := keyed.key h.key

theorem MapF.store (h : MapF w b F n) {t e : TypeId} (ht : Yba.prog.underlying t = some (.map 22 e)) (hn : n < maxLen) {a : Int} (ha : U a) (v : Value) :
    ∃ w', (Instr.mapUpdate t (.map (some b)) (.int .u64 a) v).run Yba.prog w = .ok () w' ∧ MapF w' b (upd F a (some v)) (if (F a).isSome then n else n + 1) ∧ w.grownBy w' (some b) := by
  obtain ⟨D, h1, h2, h3⟩ := h
  have htidy := h1.tidy keyed
  have hism := h1.isMap
  obtain ⟨w', hr, ho, ht'⟩ := h1.store keyed ht hn ha.key (val := v) (d := .held v) (ps := []) rfl
  have hsz := Go.Maps.size_put (k := .int .u64 a) htidy (.held v)
  rw [(h3 a ha).1, h2] at hsz
  refine ⟨w', hr, ⟨D.put (.int .u64 a) (.held v), ?_, hsz, fun c hc => ?_⟩, ht'.grown⟩
  · have hle := ho.size_le
    rw [hsz] at hle
    obtain ⟨es, clock, hb, hF, hs, hD⟩ := ho
    refine ⟨es, clock, hb, hF, ?_, hD⟩
    have : Go.Maps.size (D.put (.int .u64 a) (.held v)) = es.size := by rw [hD]; simp [Go.Maps.size, length_sorted]
    omega
  · unfold upd
    by_cases hca : c = a
    · subst hca
      rw [if_pos rfl]
      exact ⟨by rw [Go.Maps.has_put_same hism (isKeyLit hc)]; rfl, fun z => by rw [Go.Maps.atKey_put_same hism (isKeyLit hc)]; rfl⟩
    · rw [if_neg hca]
      exact ⟨by rw [Go.Maps.has_put_other (lit_ne hca)]; exact (h3 c hc).1, fun z => by rw [Go.Maps.atKey_put_other (lit_ne hca)]; exact (h3 c hc).2 z⟩

theorem MapF.drop (h : MapF w b F n) {t e : TypeId} (ht : Yba.prog.underlying t = some (.map 22 e)) {a : Int} (ha : U a) (ty : TypeId) :
    ∃ w', (Builtin.delete_ #[t, 22] ty #[.map (some b), .int .u64 a]).run Yba.prog w = .ok (.tuple #[]) w' ∧ MapF w' b (upd F a none) (if (F a).isSome then n - 1 else n) ∧ w.grownBy w' (some b) := by
  obtain ⟨D, h1, h2, h3⟩ := h
  have htidy := h1.tidy keyed
  obtain ⟨w', hr, ho, ht'⟩ := h1.drop keyed ht ha.key ty
  have hsz := Go.Maps.size_del (k := .int .u64 a) htidy
  rw [(h3 a ha).1, h2] at hsz
  have hsz' : Go.Maps.size (D.del (.int .u64 a)) = if (F a).isSome then n - 1 else n := by split at hsz <;> simp_all <;> omega
  refine ⟨w', hr, ⟨D.del (.int .u64 a), ?_, hsz', fun c hc => ?_⟩, ht'.grown⟩
  · obtain ⟨es, clock, hb, hF, hs, hD⟩ := ho
    refine ⟨es, clock, hb, hF, ?_, hD⟩
    have : Go.Maps.size (D.del (.int .u64 a)) = es.size := by rw [hD]; simp [Go.Maps.size, length_sorted]
    omega
  · unfold upd
    by_cases hca : c = a
    · subst hca
      rw [if_pos rfl]
      exact ⟨by rw [Go.Maps.has_del_same]; rfl, fun z => by rw [Go.Maps.atKey_del_same]; rfl⟩
    · rw [if_neg hca]
      exact ⟨by rw [Go.Maps.has_del_other (lit_ne hca)]; exact (h3 c hc).1, fun z => by rw [Go.Maps.atKey_del_other (lit_ne hca)]; exact (h3 c hc).2 z⟩
end
end Go.Proofs.Ybulkdkqw.lawS5586AWhole
