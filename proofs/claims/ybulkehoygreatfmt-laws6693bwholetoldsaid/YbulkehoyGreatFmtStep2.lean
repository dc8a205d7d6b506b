/-
  Step of a replica whose id is 0; deliver.
-/
import Derived.Test.YbulkehoyGreatFmtStep
import Derived.Test.YbulkehoyGreatFmtSmall
namespace Go.Proofs.YbulkehoyGreatFmt
set_option linter.unusedVariables false
open Go.RowKit Go.Extern.Stop Go.Stop Go.Extern

theorem shape_any (F : Interp) (g : Nat) (kind frm : Int) (w : World) (hF : F.answers w.tape)
    (hc : w.cell? ⟨g, 0, none⟩ = some (.int .u8 kind)) (hc3 : w.cell? ⟨g, 3, none⟩ = some (.int .i64 frm)) (hc4 : w.cell? ⟨g, 4, none⟩ = some (.int .i64 0)) :
    Calls Ybaz.prog 14 #[.pointer (some ⟨g, 0, none⟩)] w fun e w' => ∃ v, e = .returned (.iface 162 v) ∧ Below w.heap.size w w' := by
  by_cases h : kind < 1 ∨ 17 ≤ kind
  · exact shape_kind F g kind w hF h hc
  · exact shape_to F g kind frm w hF (by omega) (by omega) hc hc3 hc4

set_option maxRecDepth 100000 in
set_option maxHeartbeats 1000000 in
theorem step_ne (Rp : Nat) (kind frm mto dec : Int) (ent : Option Addr) (ne ce : Nat) (w : World) (h0 : w.cell? ⟨Rp, 0, none⟩ = some (.int .i64 0)) (hne : mto ≠ 0) :
    Calls Ybaz.prog 12 #[.pointer (some ⟨Rp, 0, none⟩), .agg #[.int .u8 kind, .bool false, .bool false, .int .i64 frm, .int .i64 mto, .int .i64 0, .int .i64 0, .int .i64 0, .int .i64 0, .int .i64 0, .int .i64 0, .int .i64 0, .int .i64 0, .int .i64 0, .int .i64 dec, .int .i64 0, .int .i64 0, .slice ent ne ce]] w fun e w' => e = .returned (.tuple #[]) ∧ Below w.heap.size w w' := by
  have h1 : ∀ o, (w.alloc o).cell? ⟨Rp, 0, none⟩ = some (.int .i64 0) := fun o => Lib.cell?_alloc_some o h0
  have hd : (mto != 0) = true := by simpa using hne
  clear hne
  go_enter Ybaz.func12, Ybaz.ntmps12
  go_wp2
  go_quiet (fail)
  go_wp2
  exact bodyPost_ret (v := .tuple #[]) (results_none rfl _ _ _) rfl ⟨rfl, (below_new w 0 _).trans (below_drewN _ _ |>.mono (by simp))⟩

set_option maxRecDepth 100000 in
set_option maxHeartbeats 1000000 in
theorem step_eq (F : Interp) (Rp : Nat) (kind frm dec : Int) (ent : Option Addr) (ne ce : Nat) (w : World) (hF : F.answers w.tape) (h0 : w.cell? ⟨Rp, 0, none⟩ = some (.int .i64 0)) :
    Calls Ybaz.prog 12 #[.pointer (some ⟨Rp, 0, none⟩), .agg #[.int .u8 kind, .bool false, .bool false, .int .i64 frm, .int .i64 0, .int .i64 0, .int .i64 0, .int .i64 0, .int .i64 0, .int .i64 0, .int .i64 0, .int .i64 0, .int .i64 0, .int .i64 0, .int .i64 dec, .int .i64 0, .int .i64 0, .slice ent ne ce]] w fun e w' => e = .returned (.tuple #[]) ∧ Below w.heap.size w w' := by
  have h1 : ∀ o, (w.alloc o).cell? ⟨Rp, 0, none⟩ = some (.int .i64 0) := fun o => Lib.cell?_alloc_some o h0
  go_enter Ybaz.func12, Ybaz.ntmps12
  go_wp2
  go_region_with (go_at_call 14; refine (shape_any F w.heap.size kind frm _ (by exact hF) (by exact cellAtNew _ _ _ 0 rfl rfl) (by exact cellAtNew _ _ _ 3 rfl rfl) (by exact cellAtNew _ _ _ 4 rfl rfl)).mono ?_; rintro e w' ⟨v, rfl, hb⟩)
  all_goals
    go_wp2
    exact bodyPost_ret (v := .tuple #[]) (results_none rfl _ _ _) rfl ⟨rfl, Below.comp (below_new w 1 _) hb⟩
end Go.Proofs.YbulkehoyGreatFmt
