/-
  'Rows.LawS6693BWholeToldSaid': the card, told and tied.
-/
import Derived.Test.YbulkehoyGreatFmtTold
namespace Go.Proofs.YbulkehoyGreatFmt.lawS6693BWhole
open Go.Extern.Stop Go.Stop Go.Extern

theorem proved : Rows.LawS6693BWholeToldSaid :=
  Claim7.holds_of_told_tied_any_at .later 3 Ybaz.f3 "fmt.errorf" ["fmt.Sprint"] [] _ _ _ _ _ (by kernel_rfl) rfl rfl rfl pLaidOut (by kernel_rfl) rfl ⟨rfl, rfl, rfl, rfl, rfl, rfl, rfl⟩ rfl rfl (by kernel_rfl) (by kernel_rfl) Ybaz.func3 (by kernel_rfl)
    (of_decide_eq_true (by kernel_rfl)) (by unfold Func.isWrapper; first | (rw [if_pos (by decide +kernel)]; kernel_rfl) | (rw [if_neg (by decide +kernel)]; exact ⟨rfl, rfl⟩)) stops.symm rfl stopKnobs.symm (by kernel_rfl)
    (by kernel_rfl) (by kernel_rfl) (by kernel_rfl) (by kernel_rfl) (by kernel_rfl) (by kernel_rfl) (by kernel_rfl) (by kernel_rfl) (by kernel_rfl) rfl (by kernel_rfl) rfl rfl
    rfl rfl
    rfl (by kernel_rfl) (by kernel_rfl) (by kernel_rfl) (by decide) (by kernel_rfl) lawS6693BWhole_row_tie
    (OpenClaim.moreEntering_of (by kernel_rfl) (by kernel_rfl) (by kernel_rfl) (by kernel_rfl) (by kernel_rfl) (by kernel_rfl) (by kernel_rfl) (by kernel_rfl) (by kernel_rfl) (by kernel_rfl))
    ⟨_, WideRow.started_initial, quiet _⟩
    (fun os started _ H enc _ => lifted os started H enc)

#print axioms proved
end Go.Proofs.YbulkehoyGreatFmt.lawS6693BWhole
