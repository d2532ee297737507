/-
  No cell of these rows narrows 'for every input' (looked for: loops, veiled, ifaces, maps, wideKeys, modest, calm, conditions, laid).
  DERIVED. THE GIVEN ROWS OF THIS SEAT. 2 by the template 'for every input the law returns true; each argument reads behind the call as it read before'; 0 by the template 'total and deterministic' (their statements: YbulkdkpgTotals.lean).
  GIVEN WITH THE SEED: the statements are not yours to turn. If you find one false, say at which input.
  Laid BY PROGRAM, IN A SANDBOX (cutbox-rows.mjs): the forced cells as the released guide's own fill.sh prints them over the translation 86390cba4f1ab1b1… (all of the seat's roots in one cut). By AI agents, Wed Nov 11 2026. No macro, syntax, notation, axiom, sorry.
-/
import Derived.Test.YbulkdkpgChecked
import GoSem.Claim
import GoSem.ClaimJoined
import GoSem.ClaimMapViews
import Derived.JoinedTies
import Derived.KernelRfl
namespace Go.Proofs.Ybulkdkpg
/- THE CELL 'sum', in the pinned program and in every row, IS THE sha256 OF THE DUMP (.gsa) THAT YbulkdkpgProg.lean LOADS. Nothing in Lean hashes anything: it is a label: what it is worth is what the hold of that sum in a sandbox is worth. -/
noncomputable def Yba.pinned : Pinned := { name := "ybulkdkpg", sum := "86390cba4f1ab1b1ec68ab3af9b478f425eab98838550b4061c824aa2e154ad8", checked := Yba.checked }
namespace Rows
def none {H : Type} : Left H := { results := [], args := [] }

/-- 'link.LawS5583AWhole': WHATEVER THE INPUT: true; the input reads as it did. -/
def lawS5583AWholeSpec : ChangeSpec := { name := "lawS5583AWhole", fn := fun _ => fun
  | [d1, d2, d3, d4, d5, d6, d7] => { results := [.lit (.bool true)], args := [d1, d2, d3, d4, d5, d6, d7] }
  | _ => none }
def lawS5583AWholeRow : OpenClaim := { program := "ybulkdkpg", sum := "86390cba4f1ab1b1ec68ab3af9b478f425eab98838550b4061c824aa2e154ad8", func := "example.com/causeway/causeway/internal/link.LawS5583AWhole", spec := "lawS5583AWhole", plainKeys := false, apart := false }
def LawS5583AWholeSaid : Prop := lawS5583AWholeRow.holds Yba.pinned (OpenSpec.ofChange lawS5583AWholeSpec)

/-- ITS FALSE NEIGHBOUR: 'it returns false'. Refute it at one input. -/
def lawS5583AWholeWrong : ChangeSpec := { name := "lawS5583AWhole", fn := fun _ => fun
  | [d1, d2, d3, d4, d5, d6, d7] => { results := [.lit (.bool false)], args := [d1, d2, d3, d4, d5, d6, d7] }
  | _ => none }
def LawS5583AWholeWrongFalsely : Prop := lawS5583AWholeRow.holds Yba.pinned (OpenSpec.ofChange lawS5583AWholeWrong)

/-- 'check.LawS5583BWhole': WHATEVER THE INPUT: true; the input reads as it did. -/
def lawS5583BWholeSpec : ChangeSpec := { name := "lawS5583BWhole", fn := fun _ => fun
  | [d1, d2] => { results := [.lit (.bool true)], args := [d1, d2] }
  | _ => none }
def lawS5583BWholeRow : OpenClaim := { program := "ybulkdkpg", sum := "86390cba4f1ab1b1ec68ab3af9b478f425eab98838550b4061c824aa2e154ad8", func := "example.com/causeway/causeway/internal/check.LawS5583BWhole", spec := "lawS5583BWhole", plainKeys := false, apart := false }
def LawS5583BWholeSaid : Prop := lawS5583BWholeRow.holds Yba.pinned (OpenSpec.ofChange lawS5583BWholeSpec)

/-- ITS FALSE NEIGHBOUR: 'it returns false'. Refute it at one input. -/
def lawS5583BWholeWrong : ChangeSpec := { name := "lawS5583BWhole", fn := fun _ => fun
  | [d1, d2] => { results := [.lit (.bool false)], args := [d1, d2] }
  | _ => none }
def LawS5583BWholeWrongFalsely : Prop := lawS5583BWholeRow.holds Yba.pinned (OpenSpec.ofChange lawS5583BWholeWrong)

end Rows
end Go.Proofs.Ybulkdkpg
