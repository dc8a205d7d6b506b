/-
  No cell of these rows narrows 'for every input' (looked for: loops, veiled, ifaces, maps, wideKeys, modest, calm, conditions, laid).
  DERIVED. THE GIVEN ROWS OF THIS SEAT. 2 by the template 'for every input the law returns true; each argument reads behind the call as it read before'; 0 by the template 'total and deterministic' (their statements: YbulkehokTotals.lean).
  GIVEN WITH THE SEED: the statements are not yours to turn. If you find one false, say at which input.
  Laid BY PROGRAM, IN A SANDBOX (cutbox-rows.mjs): the forced cells as the released guide's own fill.sh prints them over the translation 4c20f1bf6cb1b3b2… (all of the seat's roots in one cut). By AI agents, Wed Nov 11 2026. No macro, syntax, notation, axiom, sorry.
-/
import Derived.Test.YbulkehokChecked
import GoSem.Claim
import GoSem.ClaimJoined
import GoSem.ClaimMapViews
import Derived.JoinedTies
import Derived.KernelRfl
namespace Go.Proofs.Ybulkehok
/- THE CELL 'sum', in the pinned program and in every row, IS THE sha256 OF THE DUMP (.gsa) THAT YbulkehokProg.lean LOADS. Nothing in Lean hashes anything: it is a label: what it is worth is what the hold of that sum in a sandbox is worth. -/
noncomputable def Yba.pinned : Pinned := { name := "ybulkehok", sum := "4c20f1bf6cb1b3b2d4d66bccec64538636a651661c5da1c5a08cd18e48fa993c", checked := Yba.checked }
namespace Rows
def none {H : Type} : Left H := { results := [], args := [] }

/-- 'namespace.LawS6692AWhole': WHATEVER THE INPUT: true; the input reads as it did. -/
def lawS6692AWholeSpec : ChangeSpec := { name := "lawS6692AWhole", fn := fun _ => fun
  | [d1, d2] => { results := [.lit (.bool true)], args := [d1, d2] }
  | _ => none }
def lawS6692AWholeRow : OpenClaim := { program := "ybulkehok", sum := "4c20f1bf6cb1b3b2d4d66bccec64538636a651661c5da1c5a08cd18e48fa993c", func := "example.com/leasehold/leasehold/namespace.LawS6692AWhole", spec := "lawS6692AWhole", apart := false }
def LawS6692AWholeSaid : Prop := lawS6692AWholeRow.holds Yba.pinned (OpenSpec.ofChange lawS6692AWholeSpec)

/-- ITS FALSE NEIGHBOUR: 'it returns false'. Refute it at one input. -/
def lawS6692AWholeWrong : ChangeSpec := { name := "lawS6692AWhole", fn := fun _ => fun
  | [d1, d2] => { results := [.lit (.bool false)], args := [d1, d2] }
  | _ => none }
def LawS6692AWholeWrongFalsely : Prop := lawS6692AWholeRow.holds Yba.pinned (OpenSpec.ofChange lawS6692AWholeWrong)

/-- 'namespace.LawS6692AParent': WHATEVER THE INPUT: true; the input reads as it did. -/
def lawS6692AParentSpec : ChangeSpec := { name := "lawS6692AParent", fn := fun _ => fun
  | [d1, d2] => { results := [.lit (.bool true)], args := [d1, d2] }
  | _ => none }
def lawS6692AParentRow : OpenClaim := { program := "ybulkehok", sum := "4c20f1bf6cb1b3b2d4d66bccec64538636a651661c5da1c5a08cd18e48fa993c", func := "example.com/leasehold/leasehold/namespace.LawS6692AParent", spec := "lawS6692AParent", apart := false }
def LawS6692AParentSaid : Prop := lawS6692AParentRow.holds Yba.pinned (OpenSpec.ofChange lawS6692AParentSpec)

/-- ITS FALSE NEIGHBOUR: 'it returns false'. Refute it at one input. -/
def lawS6692AParentWrong : ChangeSpec := { name := "lawS6692AParent", fn := fun _ => fun
  | [d1, d2] => { results := [.lit (.bool false)], args := [d1, d2] }
  | _ => none }
def LawS6692AParentWrongFalsely : Prop := lawS6692AParentRow.holds Yba.pinned (OpenSpec.ofChange lawS6692AParentWrong)

end Rows
end Go.Proofs.Ybulkehok
