/-
  No cell of these rows narrows 'for every input' (looked for: loops, veiled, ifaces, maps, wideKeys, modest, calm, conditions, laid).
  DERIVED. THE GIVEN ROWS OF THIS SEAT. 2 by the template 'for every input the law returns true; each argument reads behind the call as it read before'; 0 by the template 'total and deterministic' (their statements: YbulkdkqwTotals.lean).
  GIVEN WITH THE SEED: the statements are not yours to turn. If you find one false, say at which input.
  Laid BY PROGRAM, IN A SANDBOX (cutbox-rows.mjs): the forced cells as the released guide's own fill.sh prints them over the translation e960e681d6e736f9… (all of the seat's roots in one cut). By AI agents, Wed Nov 11 2026. No macro, syntax, notation, axiom, sorry.
-/
import Derived.Test.YbulkdkqwChecked
import GoSem.Claim
import GoSem.ClaimJoined
import GoSem.ClaimMapViews
import Derived.JoinedTies
import Derived.KernelRfl
namespace Go.Proofs.Ybulkdkqw
/- THE CELL 'sum', in the pinned program and in every row, IS THE sha256 OF THE DUMP (.gsa) THAT YbulkdkqwProg.lean LOADS. Nothing in Lean hashes anything: it is a label: what it is worth is what the hold of that sum in a sandbox is worth. -/
noncomputable def Yba.pinned : Pinned := { name := "ybulkdkqw", sum := "e960e681d6e736f9c9549f070e31a5fe58bb9a84ef09ef73a864a1a46e1a2c07", checked := Yba.checked }
namespace Rows
def none {H : Type} : Left H := { results := [], args := [] }

/-- 'causal.LawS5586AWhole': WHATEVER THE INPUT: true; the input reads as it did. -/
def lawS5586AWholeSpec : ChangeSpec := { name := "lawS5586AWhole", fn := fun _ => fun
  | [d1, d2, d3, d4, d5, d6] => { results := [.lit (.bool true)], args := [d1, d2, d3, d4, d5, d6] }
  | _ => none }
def lawS5586AWholeRow : OpenClaim := { program := "ybulkdkqw", sum := "e960e681d6e736f9c9549f070e31a5fe58bb9a84ef09ef73a864a1a46e1a2c07", func := "example.com/evenkeel/evenkeel/internal/causal.LawS5586AWhole", spec := "lawS5586AWhole", inPlace := ["internal/reflectlite.ValueOf", "internal/reflectlite.Swapper", "(internal/reflectlite.Value).Len"], unfollowed := true, recurses := true, apart := false }
def LawS5586AWholeSaid : Prop := lawS5586AWholeRow.holds Yba.pinned (OpenSpec.ofChange lawS5586AWholeSpec)

/-- ITS FALSE NEIGHBOUR: 'it returns false'. Refute it at one input. -/
def lawS5586AWholeWrong : ChangeSpec := { name := "lawS5586AWhole", fn := fun _ => fun
  | [d1, d2, d3, d4, d5, d6] => { results := [.lit (.bool false)], args := [d1, d2, d3, d4, d5, d6] }
  | _ => none }
def LawS5586AWholeWrongFalsely : Prop := lawS5586AWholeRow.holds Yba.pinned (OpenSpec.ofChange lawS5586AWholeWrong)

/-- 'evenkeel.LawS5586CWhole': WHATEVER THE INPUT: true; the input reads as it did. -/
def lawS5586CWholeSpec : ChangeSpec := { name := "lawS5586CWhole", fn := fun _ => fun
  | [d1, d2, d3] => { results := [.lit (.bool true)], args := [d1, d2, d3] }
  | _ => none }
def lawS5586CWholeRow : OpenClaim := { program := "ybulkdkqw", sum := "e960e681d6e736f9c9549f070e31a5fe58bb9a84ef09ef73a864a1a46e1a2c07", func := "example.com/evenkeel/evenkeel.LawS5586CWhole", spec := "lawS5586CWhole", unfollowed := true, recurses := true, apart := false }
def LawS5586CWholeSaid : Prop := lawS5586CWholeRow.holds Yba.pinned (OpenSpec.ofChange lawS5586CWholeSpec)

/-- ITS FALSE NEIGHBOUR: 'it returns false'. Refute it at one input. -/
def lawS5586CWholeWrong : ChangeSpec := { name := "lawS5586CWhole", fn := fun _ => fun
  | [d1, d2, d3] => { results := [.lit (.bool false)], args := [d1, d2, d3] }
  | _ => none }
def LawS5586CWholeWrongFalsely : Prop := lawS5586CWholeRow.holds Yba.pinned (OpenSpec.ofChange lawS5586CWholeWrong)

end Rows
end Go.Proofs.Ybulkdkqw
