/-
  No cell of these rows narrows 'for every input' (looked for: loops, veiled, ifaces, maps, wideKeys, modest, calm, conditions, laid).
  DERIVED. THE GIVEN ROWS OF THIS SEAT. 2 by the template 'for every input the law returns true; each argument reads behind the call as it read before'; 0 by the template 'total and deterministic' (their statements: YbulkdkrkTotals.lean).
  GIVEN WITH THE SEED: the statements are not yours to turn. If you find one false, say at which input.
  Laid BY PROGRAM, IN A SANDBOX (cutbox-rows.mjs): the forced cells as the released guide's own fill.sh prints them over the translation 9dfe64181d515315… (all of the seat's roots in one cut). By AI agents, Wed Nov 11 2026. No macro, syntax, notation, axiom, sorry.
-/
import Derived.Test.YbulkdkrkChecked
import GoSem.Claim
import GoSem.ClaimJoined
import GoSem.ClaimMapViews
import Derived.JoinedTies
import Derived.KernelRfl
namespace Go.Proofs.Ybulkdkrk
/- THE CELL 'sum', in the pinned program and in every row, IS THE sha256 OF THE DUMP (.gsa) THAT YbulkdkrkProg.lean LOADS. Nothing in Lean hashes anything: it is a label: what it is worth is what the hold of that sum in a sandbox is worth. -/
noncomputable def Yba.pinned : Pinned := { name := "ybulkdkrk", sum := "9dfe64181d515315472ff8027ca5ffc5488c518385d16488d06b93389f100625", checked := Yba.checked }
namespace Rows
def none {H : Type} : Left H := { results := [], args := [] }

/-- 'sim.LawS5587AWhole': WHATEVER THE INPUT: true; the input reads as it did. -/
def lawS5587AWholeSpec : ChangeSpec := { name := "lawS5587AWhole", fn := fun _ => fun
  | [d1, d2, d3, d4, d5, d6, d7, d8, d9] => { results := [.lit (.bool true)], args := [d1, d2, d3, d4, d5, d6, d7, d8, d9] }
  | _ => none }
def lawS5587AWholeRow : OpenClaim := { program := "ybulkdkrk", sum := "9dfe64181d515315472ff8027ca5ffc5488c518385d16488d06b93389f100625", func := "example.com/evenkeel/evenkeel/internal/sim.LawS5587AWhole", spec := "lawS5587AWhole", apart := false }
def LawS5587AWholeSaid : Prop := lawS5587AWholeRow.holds Yba.pinned (OpenSpec.ofChange lawS5587AWholeSpec)

/-- ITS FALSE NEIGHBOUR: 'it returns false'. Refute it at one input. -/
def lawS5587AWholeWrong : ChangeSpec := { name := "lawS5587AWhole", fn := fun _ => fun
  | [d1, d2, d3, d4, d5, d6, d7, d8, d9] => { results := [.lit (.bool false)], args := [d1, d2, d3, d4, d5, d6, d7, d8, d9] }
  | _ => none }
def LawS5587AWholeWrongFalsely : Prop := lawS5587AWholeRow.holds Yba.pinned (OpenSpec.ofChange lawS5587AWholeWrong)

/-- 'sim.LawS5587CWhole': WHATEVER THE INPUT: true; the input reads as it did. -/
def lawS5587CWholeSpec : ChangeSpec := { name := "lawS5587CWhole", fn := fun _ => fun
  | [d1, d2, d3, d4, d5, d6, d7, d8, d9, d10] => { results := [.lit (.bool true)], args := [d1, d2, d3, d4, d5, d6, d7, d8, d9, d10] }
  | _ => none }
def lawS5587CWholeRow : OpenClaim := { program := "ybulkdkrk", sum := "9dfe64181d515315472ff8027ca5ffc5488c518385d16488d06b93389f100625", func := "example.com/evenkeel/evenkeel/internal/sim.LawS5587CWhole", spec := "lawS5587CWhole", unfollowed := true, recurses := true, apart := false }
def LawS5587CWholeSaid : Prop := lawS5587CWholeRow.holds Yba.pinned (OpenSpec.ofChange lawS5587CWholeSpec)

/-- ITS FALSE NEIGHBOUR: 'it returns false'. Refute it at one input. -/
def lawS5587CWholeWrong : ChangeSpec := { name := "lawS5587CWhole", fn := fun _ => fun
  | [d1, d2, d3, d4, d5, d6, d7, d8, d9, d10] => { results := [.lit (.bool false)], args := [d1, d2, d3, d4, d5, d6, d7, d8, d9, d10] }
  | _ => none }
def LawS5587CWholeWrongFalsely : Prop := lawS5587CWholeRow.holds Yba.pinned (OpenSpec.ofChange lawS5587CWholeWrong)

end Rows
end Go.Proofs.Ybulkdkrk
