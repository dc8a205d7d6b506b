/-
  deliver, whatever it does.
-/
import Derived.Test.YbulkehoyGreatFmtDeliver
import Derived.Test.YbulkehoyGreatFmtNodes
namespace Go.Proofs.YbulkehoyGreatFmt
set_option linter.unusedVariables false
open Go.RowKit Go.Extern.Stop Go.Stop Go.Extern

theorem deliver_any (F : Interp) (G l c n N D S C v t : Nat) (R X : Nat → Nat) (r : Nat → Option Addr) (dn : Nat → Nat → Bool) (st cr : Nat → Bool) (kind frm mto dec : Int) (ent : Option Addr) (ne ce : Nat) (w : World) (hF : F.answers w.tape) (hn : n ≤ 8) (hv : v ≤ n) (hl : l ≤ n)
    (hnet : NetAt w n N D S C R dn st cr) (hT : Goes w G n l v t r dn st cr) (hNodes : NodesAt w G l X r) :
    Calls Ybaz.prog 7 #[.slice (some ⟨G, 0, none⟩) l c, .pointer (some ⟨N, 0, none⟩), .int .i64 v, .int .i64 t, .agg #[.int .u8 kind, .bool false, .bool false, .int .i64 frm, .int .i64 mto, .int .i64 0, .int .i64 0, .int .i64 0, .int .i64 0, .int .i64 0, .int .i64 0, .int .i64 0, .int .i64 0, .int .i64 0, .int .i64 dec, .int .i64 0, .int .i64 0, .slice ent ne ce]] w fun e w' => e = .returned (.tuple #[]) ∧ Below w.heap.size w w' := by
  rcases hT with ⟨q, rfl, hq, h1, h2, h3, Rp, _, hr, hz⟩ | h | ⟨h, hno⟩
  · rw [show ((q + 1 : Nat) : Int) = (q : Int) + 1 from by omega]
    have hX := (hNodes.2 q (by omega)).2.1
    rw [hr] at hX
    exact deliver_yes F G l c n N D S C v q (X q) Rp R dn st cr kind frm mto dec ent ne ce w hF hn hv (by omega) hq (by omega) hnet h1 h2 h3 (hNodes.1.cell (by omega)) hX hz
  · exact deliver_far _ l c N v t kind frm mto dec ent ne ce w h
  · exact deliver_no _ l c n N D S C v t R dn st cr kind frm mto dec ent ne ce w hn hv (by omega) h hnet hno

end Go.Proofs.YbulkehoyGreatFmt
