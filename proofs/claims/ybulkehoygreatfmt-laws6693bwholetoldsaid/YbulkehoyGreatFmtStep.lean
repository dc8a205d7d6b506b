/-
  Step of a replica whose id is 0 returns at once: checkShape refuses every message whose To is 0.
-/
import Derived.Test.YbulkehoyGreatFmtFmt
import Derived.Test.YbulkehoyGreatFmtMem
import Derived.Deep.QuietTactic
import Derived.BigQuiet
import Derived.Deep.RegionWith
import Derived.Deep.DeepCutAuto
namespace Go.Proofs.YbulkehoyGreatFmt
open Go.RowKit Go.Extern.Stop Go.Stop Go.Extern

theorem cellNew (w : World) (cs : Array Value) (t : TypeId) (j : Nat) {v : Value} (h : cs[j]? = some v) : (w.alloc (.cells cs t)).cell? ⟨w.heap.size, j, none⟩ = some v := by
  rw [cell_of_row _ _ j cs t (0, 0) (heap_alloc_new w _)]
  exact h

set_option maxRecDepth 100000 in
set_option maxHeartbeats 400000 in
theorem shape_kind (F : Interp) (g : Nat) (kind : Int) (w : World) (hF : F.answers w.tape) (hk : kind < 1 ∨ 17 ≤ kind) (hc : w.cell? ⟨g, 0, none⟩ = some (.int .u8 kind)) :
    Calls Ybaz.prog 14 #[.pointer (some ⟨g, 0, none⟩)] w fun e w' => ∃ v, e = .returned (.iface 162 v) ∧ Below w.heap.size w w' := by
  have hc1 : ∀ o, (w.alloc o).cell? ⟨g, 0, none⟩ = some (.int .u8 kind) := fun o => Lib.cell?_alloc_some o hc
  by_cases h : kind < 1
  · go_enter Ybaz.func14, Ybaz.ntmps14
    go_wp2_with (go_at_call 22; refine (errorf_kind F kind w.heap.size _ (by exact hF) (by go_simp)).mono ?_; rintro e w' ⟨v, rfl, hb⟩)
    go_ret
    exact ⟨_, rfl, ((Below.refl _ _).alloc (Nat.le_refl _) _).trans (hb.mono (by simp))⟩
  · have h17 : 17 ≤ kind := by omega
    clear hk
    go_enter Ybaz.func14, Ybaz.ntmps14
    go_wp2_with (go_at_call 22; refine (errorf_kind F kind w.heap.size _ (by exact hF) (by go_simp)).mono ?_; rintro e w' ⟨v, rfl, hb⟩)
    go_ret
    exact ⟨_, rfl, ((Below.refl _ _).alloc (Nat.le_refl _) _).trans (hb.mono (by simp))⟩

set_option maxRecDepth 100000 in
set_option maxHeartbeats 1000000 in
theorem shape_to (F : Interp) (g : Nat) (kind frm : Int) (w : World) (hF : F.answers w.tape) (h1 : 1 ≤ kind) (h2 : kind < 17)
    (hc : w.cell? ⟨g, 0, none⟩ = some (.int .u8 kind)) (hc3 : w.cell? ⟨g, 3, none⟩ = some (.int .i64 frm)) (hc4 : w.cell? ⟨g, 4, none⟩ = some (.int .i64 0)) :
    Calls Ybaz.prog 14 #[.pointer (some ⟨g, 0, none⟩)] w fun e w' => ∃ v, e = .returned (.iface 162 v) ∧ Below w.heap.size w w' := by
  go_enter Ybaz.func14, Ybaz.ntmps14
  go_upto_region 3 with fail
  go_cut [31] (fun b w' => b = .bool true ∧ ∃ nq, w' = w.drewN nq)
  case first =>
    by_cases hf : frm < 1
    · go_quiet (fail)
      go_wp2
      go_meet
      case rel => exact ⟨rfl, _, rfl⟩
    · by_cases hf2 : 255 < frm
      · have d1 : decide (frm < 1) = false := decide_eq_false hf
        go_quiet (fail)
        go_wp2
        go_meet
        case rel => exact ⟨rfl, _, rfl⟩
      · have d1 : decide (frm < 1) = false := decide_eq_false hf
        have d2 : decide (255 < frm) = false := decide_eq_false hf2
        go_quiet (fail)
        go_wp2
        go_meet
        case rel => exact ⟨rfl, _, rfl⟩
  case rest =>
    obtain ⟨rfl, nq, rfl⟩ := hcut
    go_wp2
    go_region_with (go_at_call 22; refine (errorf_ids F kind frm 0 255 _ _ (by exact hF) (by exact cellNew _ _ _ 0 rfl) (by exact cellNew _ _ _ 1 rfl) (by exact cellNew _ _ _ 2 rfl) (by exact cellNew _ _ _ 3 rfl)).mono ?_; rintro e w' ⟨v, rfl, hb⟩)
    all_goals
      go_wp2
      go_ret
      exact ⟨_, rfl, Below.comp (below_new w _ _) hb⟩
end Go.Proofs.YbulkehoyGreatFmt
