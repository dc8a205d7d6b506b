/-
  No cell of these rows narrows 'for every input' (looked for: loops, veiled, ifaces, maps, wideKeys, modest, calm, conditions, laid).
  DERIVED. THE GIVEN ROWS OF THIS SEAT. 1 by the template 'for every input the law returns true; each argument reads behind the call as it read before'; 0 by the template 'total and deterministic' (their statements: YbulkehrcTotals.lean).
  GIVEN WITH THE SEED: the statements are not yours to turn. If you find one false, say at which input.
  Laid BY PROGRAM, IN A SANDBOX (cutbox-rows.mjs): the forced cells as the released guide's own fill.sh prints them over the translation 410257368e94af7d… (all of the seat's roots in one cut). By AI agents, Wed Nov 11 2026. No macro, syntax, notation, axiom, sorry.
-/
import Derived.Test.YbulkehrcChecked
import GoSem.Claim
import GoSem.ClaimJoined
import GoSem.ClaimMapViews
import Derived.JoinedTies
import Derived.KernelRfl
namespace Go.Proofs.Ybulkehrc
/- THE CELL 'sum', in the pinned program and in every row, IS THE sha256 OF THE DUMP (.gsa) THAT YbulkehrcProg.lean LOADS. Nothing in Lean hashes anything: it is a label: what it is worth is what the hold of that sum in a sandbox is worth. -/
noncomputable def Yba.pinned : Pinned := { name := "ybulkehrc", sum := "410257368e94af7df4d4a5c5008ce72540f87d6e20fe84ae393af756330b2260", checked := Yba.checked }
namespace Rows
def none {H : Type} : Left H := { results := [], args := [] }

/-- 'fjordfix.LawS6697AWhole': WHATEVER THE INPUT: true; the input reads as it did. -/
def lawS6697AWholeSpec : ChangeSpec := { name := "lawS6697AWhole", fn := fun _ => fun
  | [d1, d2] => { results := [.lit (.bool true)], args := [d1, d2] }
  | _ => none }
def lawS6697AWholeRow : OpenClaim := { program := "ybulkehrc", sum := "410257368e94af7df4d4a5c5008ce72540f87d6e20fe84ae393af756330b2260", func := "example.com/fjordfix/fjordfix.LawS6697AWhole", spec := "lawS6697AWhole", apart := false }
def LawS6697AWholeSaid : Prop := lawS6697AWholeRow.holds Yba.pinned (OpenSpec.ofChange lawS6697AWholeSpec)

/-- ITS FALSE NEIGHBOUR: 'it returns false'. Refute it at one input. -/
def lawS6697AWholeWrong : ChangeSpec := { name := "lawS6697AWhole", fn := fun _ => fun
  | [d1, d2] => { results := [.lit (.bool false)], args := [d1, d2] }
  | _ => none }
def LawS6697AWholeWrongFalsely : Prop := lawS6697AWholeRow.holds Yba.pinned (OpenSpec.ofChange lawS6697AWholeWrong)

end Rows
end Go.Proofs.Ybulkehrc
