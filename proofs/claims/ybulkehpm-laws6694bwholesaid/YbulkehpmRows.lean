/-
  No cell of these rows narrows 'for every input' (looked for: loops, veiled, ifaces, maps, wideKeys, modest, calm, conditions, laid).
  DERIVED. THE GIVEN ROWS OF THIS SEAT. 2 by the template 'for every input the law returns true; each argument reads behind the call as it read before'; 0 by the template 'total and deterministic' (their statements: YbulkehpmTotals.lean).
  GIVEN WITH THE SEED: the statements are not yours to turn. If you find one false, say at which input.
  Laid BY PROGRAM, IN A SANDBOX (cutbox-rows.mjs): the forced cells as the released guide's own fill.sh prints them over the translation 5cf032ce37f58cbd… (all of the seat's roots in one cut). By AI agents, Wed Nov 11 2026. No macro, syntax, notation, axiom, sorry.
-/
import Derived.Test.YbulkehpmChecked
import GoSem.Claim
import GoSem.ClaimJoined
import GoSem.ClaimMapViews
import Derived.JoinedTies
import Derived.KernelRfl
namespace Go.Proofs.Ybulkehpm
/- THE CELL 'sum', in the pinned program and in every row, IS THE sha256 OF THE DUMP (.gsa) THAT YbulkehpmProg.lean LOADS. Nothing in Lean hashes anything: it is a label: what it is worth is what the hold of that sum in a sandbox is worth. -/
noncomputable def Yba.pinned : Pinned := { name := "ybulkehpm", sum := "5cf032ce37f58cbd63e119af93a46dd4e5e4121bfb970f0bccaff288e739c4a9", checked := Yba.checked }
namespace Rows
def none {H : Type} : Left H := { results := [], args := [] }

/-- 'decimal.LawS6694BWhole': WHATEVER THE INPUT: true; the input reads as it did. -/
def lawS6694BWholeSpec : ChangeSpec := { name := "lawS6694BWhole", fn := fun _ => fun
  | [d1, d2] => { results := [.lit (.bool true)], args := [d1, d2] }
  | _ => none }
def lawS6694BWholeRow : OpenClaim := { program := "ybulkehpm", sum := "5cf032ce37f58cbd63e119af93a46dd4e5e4121bfb970f0bccaff288e739c4a9", func := "example.com/bondsieve/bondsieve/decimal.LawS6694BWhole", spec := "lawS6694BWhole", apart := false }
def LawS6694BWholeSaid : Prop := lawS6694BWholeRow.holds Yba.pinned (OpenSpec.ofChange lawS6694BWholeSpec)

/-- ITS FALSE NEIGHBOUR: 'it returns false'. Refute it at one input. -/
def lawS6694BWholeWrong : ChangeSpec := { name := "lawS6694BWhole", fn := fun _ => fun
  | [d1, d2] => { results := [.lit (.bool false)], args := [d1, d2] }
  | _ => none }
def LawS6694BWholeWrongFalsely : Prop := lawS6694BWholeRow.holds Yba.pinned (OpenSpec.ofChange lawS6694BWholeWrong)

/-- 'decimal.LawS6694CWhole': WHATEVER THE INPUT: true; the input reads as it did. -/
def lawS6694CWholeSpec : ChangeSpec := { name := "lawS6694CWhole", fn := fun _ => fun
  | [d1, d2, d3, d4, d5, d6] => { results := [.lit (.bool true)], args := [d1, d2, d3, d4, d5, d6] }
  | _ => none }
def lawS6694CWholeRow : OpenClaim := { program := "ybulkehpm", sum := "5cf032ce37f58cbd63e119af93a46dd4e5e4121bfb970f0bccaff288e739c4a9", func := "example.com/bondsieve/bondsieve/decimal.LawS6694CWhole", spec := "lawS6694CWhole", apart := false }
def LawS6694CWholeSaid : Prop := lawS6694CWholeRow.holds Yba.pinned (OpenSpec.ofChange lawS6694CWholeSpec)

/-- ITS FALSE NEIGHBOUR: 'it returns false'. Refute it at one input. -/
def lawS6694CWholeWrong : ChangeSpec := { name := "lawS6694CWhole", fn := fun _ => fun
  | [d1, d2, d3, d4, d5, d6] => { results := [.lit (.bool false)], args := [d1, d2, d3, d4, d5, d6] }
  | _ => none }
def LawS6694CWholeWrongFalsely : Prop := lawS6694CWholeRow.holds Yba.pinned (OpenSpec.ofChange lawS6694CWholeWrong)

end Rows
end Go.Proofs.Ybulkehpm
