/-
  DERIVED. GIVEN WITH THE SEED: THE CARDS: each row of YbulkehoyGreatFmtRows.lean that lists a variable, with what it lists TIED to the program's text (the seventh form; the later family's looks); each row that meets fmt, with fmt's text TOLD by the authors' own Lean function (tested against real Go, not proved from fmt's source: count such statements apart). THE CARD IS WHAT COUNTS. Prove the row's statement (the work); the ties are given (YbulkehoyGreatFmtTie.lean); close each card by the builder's one call (the guide's Derived/Test/ToyasCard.lean, 'card_holds'). Laid BY PROGRAM, IN A SANDBOX (cutbox-door.mjs). By AI agents, Wed Nov 11 2026. No macro, syntax, notation, axiom, sorry.
-/
import Derived.Test.YbulkehoyGreatFmtRows
import GoSem.ClaimSeven
namespace Go.Proofs.YbulkehoyGreatFmt
namespace Rows

/-- THE TOLD AND TIED CARD OF 'sim.LawS6693BWhole'. -/
def lawS6693BWholeCard : Claim7 := { stood := { row := lawS6693BWholeRow, standIns := [], harness := (true, "24318c8804f2413c2761bef628ee3c67293c06342931526a031054d6b183d2a9"), looks := false }, told := true, laidByText := true, laidKinds := [.data], laidTests := true, laidLooks := .later, goes := false }
def LawS6693BWholeToldSaid : Prop := Claim7.holds Ybaz.pinned (.plain (OpenSpec.ofChange lawS6693BWholeSpec)) lawS6693BWholeCard
/-- ITS FALSE NEIGHBOUR. Refute it at one input. -/
def LawS6693BWholeToldWrongFalsely : Prop := Claim7.holds Ybaz.pinned (.plain (OpenSpec.ofChange lawS6693BWholeWrong)) lawS6693BWholeCard
end Rows
end Go.Proofs.YbulkehoyGreatFmt
