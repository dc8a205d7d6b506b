/-
  NARROWER THAN 'FOR EVERY INPUT', by the rows' own cells (each row's printed sentence says how): LawS6693BWhole: laid.
  DERIVED. THE GIVEN ROWS OF THIS SEAT. 1 by the template 'for every input the law returns true; each argument reads behind the call as it read before'; 0 by the template 'total and deterministic' (their statements: YbulkehoyGreatFmtTotals.lean).
  GIVEN WITH THE SEED: the statements are not yours to turn. If you find one false, say at which input.
  Laid BY PROGRAM, IN A SANDBOX (cutbox-rows.mjs): the forced cells as the released guide's own fill.sh prints them over the translation e5995cc79190022c… (all of the seat's roots in one cut). By AI agents, Wed Nov 11 2026. No macro, syntax, notation, axiom, sorry.
-/
import Derived.Test.YbulkehoyGreatFmtChecked
import GoSem.Claim
import GoSem.ClaimJoined
import GoSem.ClaimMapViews
import Derived.JoinedTies
import Derived.KernelRfl
namespace Go.Proofs.YbulkehoyGreatFmt
/- THE CELL 'sum', in the pinned program and in every row, IS THE sha256 OF THE DUMP (.gsa) THAT YbulkehoyGreatFmtProg.lean LOADS. Nothing in Lean hashes anything: it is a label: what it is worth is what the hold of that sum in a sandbox is worth. -/
noncomputable def Ybaz.pinned : Pinned := { name := "ybulkehoygreatfmt", sum := "e5995cc79190022cb6f1b8837a8139a1d8da8e1a0b1366f8d7ef956516f97c78", checked := Ybaz.checked }
namespace Rows
def none {H : Type} : Left H := { results := [], args := [] }

/- WHAT THE LISTED PACKAGE-LEVEL VARIABLES READ AS WHEN THE CALL BEGINS. Each datum BY PROGRAM (the guide's laid-datum.mjs) off the statement by which the dump's own 'gosem.cut.vars' lays the variable. In a bare row this is a premise. The card (YbulkehoyGreatFmtCards.lean) ties it to the program's text. -/
def laid_example_com_quorumlog_quorumlog_newSession {H : Type} : DataW H := .agg [.agg [.lit (.int .i64 (-1)), .lit (.int .i64 (-1))], .agg [.lit (.int .i64 (-1)), .lit (.int .i64 (-1))], .lit (.int .i64 (-1))]

/-- 'sim.LawS6693BWhole': WHATEVER THE INPUT: true; the input reads as it did. -/
def lawS6693BWholeSpec : ChangeSpec := { name := "lawS6693BWhole", vars := ["example.com/quorumlog/quorumlog.newSession"], fn := fun _ => fun
  | [d1, d2, d3, d4, d5, d6, d7, d8, d9, d10, d11, g1] => { results := [.lit (.bool true)], args := [d1, d2, d3, d4, d5, d6, d7, d8, d9, d10, d11], vars := [g1] }
  | _ => none }
def lawS6693BWholeRow : OpenClaim := { program := "ybulkehoygreatfmt", sum := "e5995cc79190022cb6f1b8837a8139a1d8da8e1a0b1366f8d7ef956516f97c78", func := "example.com/quorumlog/quorumlog/internal/sim.LawS6693BWhole", spec := "lawS6693BWhole", stops := ["fmt.errorf", "fmt.Sprint"], inPlace := ["fmt.errorf", "fmt.Sprint"], unfollowed := true, recurses := true, named := ["example.com/quorumlog/quorumlog.newSession"], apart := false, laid := [("example.com/quorumlog/quorumlog.newSession", laid_example_com_quorumlog_quorumlog_newSession)] }
/-- NO THEOREM (fmt's text is open here; it may be false): for the released tool's asking of the row's closed facts alone. THE STATEMENT IS 'LawS6693BWholeToldSaid' (YbulkehoyGreatFmtCards.lean). -/
def LawS6693BWholeFormAsk : Prop := lawS6693BWholeRow.holds Ybaz.pinned (OpenSpec.ofChange lawS6693BWholeSpec)

/-- ITS FALSE NEIGHBOUR: 'it returns false'. Refute it at one input. -/
def lawS6693BWholeWrong : ChangeSpec := { name := "lawS6693BWhole", vars := ["example.com/quorumlog/quorumlog.newSession"], fn := fun _ => fun
  | [d1, d2, d3, d4, d5, d6, d7, d8, d9, d10, d11, g1] => { results := [.lit (.bool false)], args := [d1, d2, d3, d4, d5, d6, d7, d8, d9, d10, d11], vars := [g1] }
  | _ => none }
def LawS6693BWholeWrongFormAsk : Prop := lawS6693BWholeRow.holds Ybaz.pinned (OpenSpec.ofChange lawS6693BWholeWrong)

end Rows
end Go.Proofs.YbulkehoyGreatFmt
