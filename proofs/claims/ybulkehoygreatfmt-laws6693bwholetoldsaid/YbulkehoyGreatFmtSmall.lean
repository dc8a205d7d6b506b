/-
  Contracts of the small callees: newNode, zzs6693bbools, up, running.
-/
import Derived.Test.YbulkehoyGreatFmtMem
import Derived.Deep.QuietTactic
import Derived.BigQuiet
namespace Go.Proofs.YbulkehoyGreatFmt
set_option linter.unusedVariables false
open Go.RowKit

set_option maxRecDepth 100000 in
set_option maxHeartbeats 400000 in
theorem newNode_any (r : Option Addr) (c0 c1 c2 : Int) (w : World) :
    Calls Ybaz.prog 5 #[.pointer r, .agg #[.int .i64 c0, .int .i64 c1, .int .i64 c2], .bool false] w fun e w' =>
      e = .returned (.pointer (some ⟨w.heap.size + 1, 0, none⟩)) ∧ w'.cell? ⟨w.heap.size + 1, 0, none⟩ = some (.pointer r) ∧ w'.cell? ⟨w.heap.size + 1, 15, none⟩ = some (.pointer none) ∧ Below w.heap.size w w' ∧ w'.heap.size = w.heap.size + 2 := by
  go_enter Ybaz.func5, Ybaz.ntmps5
  go_wp2
  go_ret
  refine ⟨rfl, ?_, ?_, ((Below.refl _ _).alloc (Nat.le_refl _) _).alloc (by simp) _, by simp⟩
  · exact cellAtNew _ _ _ 0 rfl (by simp)
  · exact cellAtNew _ _ _ 15 rfl (by simp)

set_option maxRecDepth 100000 in
set_option maxHeartbeats 400000 in
/-- Two rows that hold the same bools. -/
theorem bools_any (g h n c c' : Nat) (hn : n ≤ 1048576) (f : Nat → Value) (b : Nat → Bool) (w : World) (hf : ∀ i, i < n → f i = .bool (b i)) (h0 : Row w g n f) (h1 : Row w h n f) (a0 a1 : Option Addr) (e0 : 0 < n → a0 = some ⟨g, 0, none⟩) (e1 : 0 < n → a1 = some ⟨h, 0, none⟩) :
    Calls Ybaz.prog 8 #[.slice a0 n c, .slice a1 n c'] w fun e w' => e = .returned (.bool true) ∧ ∃ k, w' = w.drewN k := by
  go_enter Ybaz.func8, Ybaz.ntmps8
  go_wp2
  go_loopw [13] (fun i wr => ∃ k : Nat, k ≤ n ∧ i = .int .i64 k ∧ ∃ q, wr = w.drewN q) (fun i _ => n - (intOf i).toNat)
  case atStart => exact ⟨0, Nat.zero_le _, rfl, 0, rfl⟩
  case round =>
    obtain ⟨k, hk, rfl, q, rfl⟩ := hrel
    by_cases hlt : k < n
    · have hp : 0 < n := by omega
      obtain rfl := e0 hp
      obtain rfl := e1 hp
      have c0 := h0.cell hlt
      have c1 := h1.cell hlt
      rw [hf k hlt] at c0 c1
      generalize b k = bk at c0 c1
      clear hf h0 h1 e0 e1
      have hlt' : (k : Int) < (n : Int) := by omega
      go_wp2
      go_quiet (fail)
      go_wp2
      go_roundw
      case rel => exact ⟨k + 1, by omega, by go_num, _, rfl⟩
      case measure => simp [intOf]; omega
    · go_wp2
      go_ret
      exact ⟨rfl, _, rfl⟩

set_option maxRecDepth 100000 in
set_option maxHeartbeats 400000 in
theorem up_any (N D R a b m c d : Nat) (x : Bool) (w : World) (hm : m ≤ 1048576) (ha : a < m) (hb : b < m) (h0 : w.cell? ⟨N, 0, none⟩ = some (.slice (some ⟨D, 0, none⟩) m c)) (h1 : w.cell? ⟨D, a, none⟩ = some (.slice (some ⟨R, 0, none⟩) m d)) (h2 : w.cell? ⟨R, b, none⟩ = some (.bool x)) :
    Calls Ybaz.prog 10 #[.pointer (some ⟨N, 0, none⟩), .int .i64 a, .int .i64 b] w fun e w' => e = .returned (.bool !x) ∧ w' = w := by
  go_enter Ybaz.func10, Ybaz.ntmps10
  go_wp2
  go_ret
  exact ⟨rfl, rfl⟩

set_option maxRecDepth 100000 in
set_option maxHeartbeats 400000 in
theorem running_any (N S C a m c d : Nat) (x y : Bool) (w : World) (hm : m ≤ 1048576) (ha : a < m) (h0 : w.cell? ⟨N, 3, none⟩ = some (.slice (some ⟨S, 0, none⟩) m c)) (h1 : w.cell? ⟨S, a, none⟩ = some (.bool x)) (h2 : w.cell? ⟨N, 4, none⟩ = some (.slice (some ⟨C, 0, none⟩) m d)) (h3 : w.cell? ⟨C, a, none⟩ = some (.bool y)) :
    Calls Ybaz.prog 11 #[.pointer (some ⟨N, 0, none⟩), .int .i64 a] w fun e w' => e = .returned (.bool (x && !y)) ∧ w' = w := by
  cases x
  all_goals
    go_enter Ybaz.func11, Ybaz.ntmps11
    go_wp2
    go_ret
    exact ⟨rfl, rfl⟩

end Go.Proofs.YbulkehoyGreatFmt
