/-
  The law's code, cut at a region of its outermost sequence.
-/
import Derived.Test.YbulkehoyGreatFmtMem
namespace Go.Proofs.YbulkehoyGreatFmt
open Go.RowKit

/-- The statement that is region 'id' of the outermost sequence, and all that follows it. -/
def seqAt (id : Nat) : Code → Code × Code
  | .seq (.region i ops d) b => if i = id then (.region i ops d, b) else seqAt id b
  | .seq _ b => seqAt id b
  | c => (c, .skip)

/-- The same where the region is a test's: the region, the test, all that follows it. -/
def seqIn (id : Nat) : Code → Code × Code × Code
  | .seq (.seq (.region i ops d) c) b => if i = id then (.region i ops d, c, b) else seqIn id b
  | .seq _ b => seqIn id b
  | c => (c, .skip, .skip)

/-- What the law owes in the end: true; nothing that was there has turned. -/
def Fin0 (w : World) : Ending → World → Prop := fun e w' => e = .returned (.bool true) ∧ Below w.heap.size w w'

end Go.Proofs.YbulkehoyGreatFmt
