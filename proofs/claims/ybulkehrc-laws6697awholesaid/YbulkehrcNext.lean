/-
  nextBanking.
-/
import Derived.Test.YbulkehrcMem
namespace Go.Proofs.Ybulkehrc
set_option linter.unusedVariables false
open Go.RowKit

set_option maxHeartbeats 400000 in
theorem next_any (g m c r v : Nat) (t : Nat → Int) (w : World) (hm : m ≤ 1048576) (hr : r ≤ m) (hrow : Row w g (m + 1) (fun j => .int .u8 (t j))) (hv : First t m r v) :
    Calls Yba.prog 4 #[.slice (some ⟨g, 0, none⟩) (m + 1) c, .int .i64 ((r : Int) - 1)] w fun e w' => e = .returned (.int .i64 v) ∧ w' = w := by
  obtain ⟨h1, h2, h3, h4⟩ := hv
  have hrv : r ≤ v := by omega
  go_enter Yba.func4, Yba.ntmps4
  go_wp2
  go_loop [1] (fun i => ∃ k : Nat, r ≤ k ∧ k ≤ v ∧ i = .int .i64 k) (fun i => v - (intOf i).toNat)
  case atStart => exact ⟨r, Nat.le_refl _, hrv, by go_num⟩
  case round =>
    obtain ⟨k, hk, hk2, rfl⟩ := hrel
    have hc := hrow.cell (i := k) (by omega)
    by_cases e : k = v
    · subst e
      have hc' : w.cell? ⟨g, k, none⟩ = some (.int .u8 1) := by rw [hc, h1]
      clear hc h1 h4 hrow
      go_wp2
      go_ret
      exact ⟨rfl, rfl⟩
    · have hne := h4 k hk (by omega)
      have hne' : (t k != 1) = true := by simpa using hne
      have hc' : w.cell? ⟨g, k, none⟩ = some (.int .u8 (t k)) := hc
      clear hc h1 hrow h4
      generalize t k = x at hc' hne hne'
      go_wp2
      go_round
      case rel => exact ⟨k + 1, by omega, by omega, by go_num⟩
      case measure => simp [intOf]; omega
end Go.Proofs.Ybulkehrc
