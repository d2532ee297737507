/-
  No cell of these rows narrows 'for every input' (looked for: loops, veiled, ifaces, maps, wideKeys, modest, calm, conditions, laid).
  DERIVED. THE GIVEN ROWS OF THIS SEAT. 1 by the template 'for every input the law returns true; each argument reads behind the call as it read before'; 0 by the template 'total and deterministic' (their statements: YbulkdkpuTotals.lean).
  GIVEN WITH THE SEED: the statements are not yours to turn. If you find one false, say at which input.
  Laid BY PROGRAM, IN A SANDBOX (cutbox-rows.mjs): the forced cells as the released guide's own fill.sh prints them over the translation c93e0b936e63a0cf… (all of the seat's roots in one cut). By AI agents, Wed Nov 11 2026. No macro, syntax, notation, axiom, sorry.
-/
import Derived.Test.YbulkdkpuChecked
import GoSem.Claim
import GoSem.ClaimJoined
import GoSem.ClaimMapViews
import Derived.JoinedTies
import Derived.KernelRfl
namespace Go.Proofs.Ybulkdkpu
/- THE CELL 'sum', in the pinned program and in every row, IS THE sha256 OF THE DUMP (.gsa) THAT YbulkdkpuProg.lean LOADS. Nothing in Lean hashes anything: it is a label: what it is worth is what the hold of that sum in a sandbox is worth. -/
noncomputable def Yba.pinned : Pinned := { name := "ybulkdkpu", sum := "c93e0b936e63a0cf92e128e3d89498d0c43d8b37aed9af50d0612691b8b91456", checked := Yba.checked }
namespace Rows
def none {H : Type} : Left H := { results := [], args := [] }

/-- 'latchtree.LawS5584CWhole': WHATEVER THE INPUT: true; the input reads as it did. -/
def lawS5584CWholeSpec : ChangeSpec := { name := "lawS5584CWhole", fn := fun _ => fun
  | [d1, d2, d3, d4, d5, d6, d7, d8, d9] => { results := [.lit (.bool true)], args := [d1, d2, d3, d4, d5, d6, d7, d8, d9] }
  | _ => none }
def lawS5584CWholeRow : OpenClaim := { program := "ybulkdkpu", sum := "c93e0b936e63a0cf92e128e3d89498d0c43d8b37aed9af50d0612691b8b91456", func := "example.com/latchtree/latchtree.LawS5584CWhole", spec := "lawS5584CWhole", inPlace := ["math.Float64bits"], apart := false }
def LawS5584CWholeSaid : Prop := lawS5584CWholeRow.holds Yba.pinned (OpenSpec.ofChange lawS5584CWholeSpec)

/-- ITS FALSE NEIGHBOUR: 'it returns false'. Refute it at one input. -/
def lawS5584CWholeWrong : ChangeSpec := { name := "lawS5584CWhole", fn := fun _ => fun
  | [d1, d2, d3, d4, d5, d6, d7, d8, d9] => { results := [.lit (.bool false)], args := [d1, d2, d3, d4, d5, d6, d7, d8, d9] }
  | _ => none }
def LawS5584CWholeWrongFalsely : Prop := lawS5584CWholeRow.holds Yba.pinned (OpenSpec.ofChange lawS5584CWholeWrong)

end Rows
end Go.Proofs.Ybulkdkpu
