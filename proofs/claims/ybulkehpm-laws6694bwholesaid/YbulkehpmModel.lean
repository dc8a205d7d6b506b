/-
  The law's model over the seat's translation.
-/
import Derived.Test.YbulkehpmMul
namespace Go.Proofs.Ybulkehpm
open Go.RowKit Go.Lib

set_option maxHeartbeats 1000000 in
theorem model_a0 (b : Int) (w : World) : Calls Yba.prog 6 #[.int .i64 0, .int .i64 b] w fun e w' => e = .returned (.tuple #[.int .i64 0, .bool true]) ∧ w' = w := by
  go_enter Yba.func6, Yba.ntmps6
  go_wp2
  go_ret2
  exact ⟨rfl, rfl⟩
set_option maxHeartbeats 1000000 in
theorem model_b0 (a : Int) (w : World) : Calls Yba.prog 6 #[.int .i64 a, .int .i64 0] w fun e w' => e = .returned (.tuple #[.int .i64 0, .bool true]) ∧ w' = w := by
  by_cases h : a = 0
  · subst h; exact model_a0 0 w
  · go_enter Yba.func6, Yba.ntmps6
    go_wp2
    go_ret2
    exact ⟨rfl, rfl⟩
set_option maxHeartbeats 1000000 in
theorem model_am (b : Int) (h : b ≠ 0) (w : World) : Calls Yba.prog 6 #[.int .i64 (-9223372036854775808), .int .i64 b] w fun e w' => e = .returned (.tuple #[.int .i64 0, .bool false]) ∧ w' = w := by
  go_enter Yba.func6, Yba.ntmps6
  go_wp2
  go_ret2
  exact ⟨rfl, rfl⟩
set_option maxHeartbeats 1000000 in
theorem model_bm (a : Int) (h : a ≠ 0) (w : World) : Calls Yba.prog 6 #[.int .i64 a, .int .i64 (-9223372036854775808)] w fun e w' => e = .returned (.tuple #[.int .i64 0, .bool false]) ∧ w' = w := by
  by_cases hm : a = -9223372036854775808
  · subst hm; exact model_am _ (by decide) w
  · go_enter Yba.func6, Yba.ntmps6
    go_wp2
    go_ret2
    exact ⟨rfl, rfl⟩
theorem beq_no {a c : Int} (h : a ≠ c) : (a == c) = false := by simpa using h
set_option maxHeartbeats 1000000 in
theorem model_pp_false (a b : Int) (ha : 0 < a) (ha1 : a ≤ 9223372036854775807) (hb : 0 < b) (hb1 : b ≤ 9223372036854775807) (hc : decide ((9223372036854775807 : Int) / b < a) = false) (w : World) : Calls Yba.prog 6 #[.int .i64 a, .int .i64 b] w fun e w' => e = .returned (.tuple #[.int .i64 (wrap64 (a * b)), .bool true]) ∧ w' = w := by
  have ea := beq_no (a := a) (c := 0) (by omega)
  have eb := beq_no (a := b) (c := 0) (by omega)
  have fa := beq_no (a := a) (c := -9223372036854775808) (by omega)
  have fb := beq_no (a := b) (c := -9223372036854775808) (by omega)
  have sa : decide (a < 0) = false := decide_eq_false (by omega)
  have sb : decide (b < 0) = false := decide_eq_false (by omega)
  go_enter Yba.func6, Yba.ntmps6
  go_wp2
  go_ret2
  exact ⟨rfl, rfl⟩
set_option maxHeartbeats 1000000 in
theorem model_pp_true (a b : Int) (ha : 0 < a) (ha1 : a ≤ 9223372036854775807) (hb : 0 < b) (hb1 : b ≤ 9223372036854775807) (hc : decide ((9223372036854775807 : Int) / b < a) = true) (w : World) : Calls Yba.prog 6 #[.int .i64 a, .int .i64 b] w fun e w' => e = .returned (.tuple #[.int .i64 0, .bool false]) ∧ w' = w := by
  have ea := beq_no (a := a) (c := 0) (by omega)
  have eb := beq_no (a := b) (c := 0) (by omega)
  have fa := beq_no (a := a) (c := -9223372036854775808) (by omega)
  have fb := beq_no (a := b) (c := -9223372036854775808) (by omega)
  have sa : decide (a < 0) = false := decide_eq_false (by omega)
  have sb : decide (b < 0) = false := decide_eq_false (by omega)
  go_enter Yba.func6, Yba.ntmps6
  go_wp2
  go_ret2
  exact ⟨rfl, rfl⟩
set_option maxHeartbeats 1000000 in
theorem model_pn_false (a b : Int) (ha : 0 < a) (ha1 : a ≤ 9223372036854775807) (hb : b < 0) (hb1 : -9223372036854775808 < b) (hc : decide (wrap64 (-Int.tdiv 9223372036854775807 b) < a) = false) (w : World) : Calls Yba.prog 6 #[.int .i64 a, .int .i64 b] w fun e w' => e = .returned (.tuple #[.int .i64 (wrap64 (a * b)), .bool true]) ∧ w' = w := by
  have ea := beq_no (a := a) (c := 0) (by omega)
  have eb := beq_no (a := b) (c := 0) (by omega)
  have fa := beq_no (a := a) (c := -9223372036854775808) (by omega)
  have fb := beq_no (a := b) (c := -9223372036854775808) (by omega)
  have sa : decide (a < 0) = false := decide_eq_false (by omega)
  have sb : decide (b < 0) = true := decide_eq_true (by omega)
  have wb : wrap64 (-b) = -b := by unfold wrap64; omega
  go_enter Yba.func6, Yba.ntmps6
  go_wp2
  go_ret2
  exact ⟨rfl, rfl⟩
set_option maxHeartbeats 1000000 in
theorem model_pn_true (a b : Int) (ha : 0 < a) (ha1 : a ≤ 9223372036854775807) (hb : b < 0) (hb1 : -9223372036854775808 < b) (hc : decide (wrap64 (-Int.tdiv 9223372036854775807 b) < a) = true) (w : World) : Calls Yba.prog 6 #[.int .i64 a, .int .i64 b] w fun e w' => e = .returned (.tuple #[.int .i64 0, .bool false]) ∧ w' = w := by
  have ea := beq_no (a := a) (c := 0) (by omega)
  have eb := beq_no (a := b) (c := 0) (by omega)
  have fa := beq_no (a := a) (c := -9223372036854775808) (by omega)
  have fb := beq_no (a := b) (c := -9223372036854775808) (by omega)
  have sa : decide (a < 0) = false := decide_eq_false (by omega)
  have sb : decide (b < 0) = true := decide_eq_true (by omega)
  have wb : wrap64 (-b) = -b := by unfold wrap64; omega
  go_enter Yba.func6, Yba.ntmps6
  go_wp2
  go_ret2
  exact ⟨rfl, rfl⟩
set_option maxHeartbeats 1000000 in
theorem model_np_false (a b : Int) (ha : a < 0) (ha1 : -9223372036854775808 < a) (hb : 0 < b) (hb1 : b ≤ 9223372036854775807) (hc : decide ((9223372036854775807 : Int) / b < -a) = false) (w : World) : Calls Yba.prog 6 #[.int .i64 a, .int .i64 b] w fun e w' => e = .returned (.tuple #[.int .i64 (wrap64 (a * b)), .bool true]) ∧ w' = w := by
  have ea := beq_no (a := a) (c := 0) (by omega)
  have eb := beq_no (a := b) (c := 0) (by omega)
  have fa := beq_no (a := a) (c := -9223372036854775808) (by omega)
  have fb := beq_no (a := b) (c := -9223372036854775808) (by omega)
  have sa : decide (a < 0) = true := decide_eq_true (by omega)
  have sb : decide (b < 0) = false := decide_eq_false (by omega)
  have wa : wrap64 (-a) = -a := by unfold wrap64; omega
  go_enter Yba.func6, Yba.ntmps6
  go_wp2
  go_ret2
  exact ⟨rfl, rfl⟩
set_option maxHeartbeats 1000000 in
theorem model_np_true (a b : Int) (ha : a < 0) (ha1 : -9223372036854775808 < a) (hb : 0 < b) (hb1 : b ≤ 9223372036854775807) (hc : decide ((9223372036854775807 : Int) / b < -a) = true) (w : World) : Calls Yba.prog 6 #[.int .i64 a, .int .i64 b] w fun e w' => e = .returned (.tuple #[.int .i64 0, .bool false]) ∧ w' = w := by
  have ea := beq_no (a := a) (c := 0) (by omega)
  have eb := beq_no (a := b) (c := 0) (by omega)
  have fa := beq_no (a := a) (c := -9223372036854775808) (by omega)
  have fb := beq_no (a := b) (c := -9223372036854775808) (by omega)
  have sa : decide (a < 0) = true := decide_eq_true (by omega)
  have sb : decide (b < 0) = false := decide_eq_false (by omega)
  have wa : wrap64 (-a) = -a := by unfold wrap64; omega
  go_enter Yba.func6, Yba.ntmps6
  go_wp2
  go_ret2
  exact ⟨rfl, rfl⟩
set_option maxHeartbeats 1000000 in
theorem model_nn_false (a b : Int) (ha : a < 0) (ha1 : -9223372036854775808 < a) (hb : b < 0) (hb1 : -9223372036854775808 < b) (hc : decide (wrap64 (-Int.tdiv 9223372036854775807 b) < -a) = false) (w : World) : Calls Yba.prog 6 #[.int .i64 a, .int .i64 b] w fun e w' => e = .returned (.tuple #[.int .i64 (wrap64 (a * b)), .bool true]) ∧ w' = w := by
  have ea := beq_no (a := a) (c := 0) (by omega)
  have eb := beq_no (a := b) (c := 0) (by omega)
  have fa := beq_no (a := a) (c := -9223372036854775808) (by omega)
  have fb := beq_no (a := b) (c := -9223372036854775808) (by omega)
  have sa : decide (a < 0) = true := decide_eq_true (by omega)
  have sb : decide (b < 0) = true := decide_eq_true (by omega)
  have wa : wrap64 (-a) = -a := by unfold wrap64; omega
  have wb : wrap64 (-b) = -b := by unfold wrap64; omega
  go_enter Yba.func6, Yba.ntmps6
  go_wp2
  go_ret2
  exact ⟨rfl, rfl⟩
set_option maxHeartbeats 1000000 in
theorem model_nn_true (a b : Int) (ha : a < 0) (ha1 : -9223372036854775808 < a) (hb : b < 0) (hb1 : -9223372036854775808 < b) (hc : decide (wrap64 (-Int.tdiv 9223372036854775807 b) < -a) = true) (w : World) : Calls Yba.prog 6 #[.int .i64 a, .int .i64 b] w fun e w' => e = .returned (.tuple #[.int .i64 0, .bool false]) ∧ w' = w := by
  have ea := beq_no (a := a) (c := 0) (by omega)
  have eb := beq_no (a := b) (c := 0) (by omega)
  have fa := beq_no (a := a) (c := -9223372036854775808) (by omega)
  have fb := beq_no (a := b) (c := -9223372036854775808) (by omega)
  have sa : decide (a < 0) = true := decide_eq_true (by omega)
  have sb : decide (b < 0) = true := decide_eq_true (by omega)
  have wa : wrap64 (-a) = -a := by unfold wrap64; omega
  have wb : wrap64 (-b) = -b := by unfold wrap64; omega
  go_enter Yba.func6, Yba.ntmps6
  go_wp2
  go_ret2
  exact ⟨rfl, rfl⟩

theorem quo_le {x y : Nat} (hy : 0 < y) : (9223372036854775807 / y < x) ↔ 9223372036854775807 < x * y := Nat.div_lt_iff_lt_mul hy
theorem quo_pos {b : Int} (hb : 0 < b) : (9223372036854775807 : Int) / b = ((9223372036854775807 / b.natAbs : Nat) : Int) := by
  have e : b = (b.natAbs : Int) := by omega
  conv => lhs; rw [e]
  rfl
theorem quo_neg {b : Int} (hb : b < 0) : wrap64 (-Int.tdiv 9223372036854775807 b) = ((9223372036854775807 / b.natAbs : Nat) : Int) := by
  have e : b = -(b.natAbs : Int) := by omega
  have h1 : Int.tdiv 9223372036854775807 b = -((9223372036854775807 / b.natAbs : Nat) : Int) := by
    conv => lhs; rw [e, Int.tdiv_neg]
    rfl
  have h2 : 9223372036854775807 / b.natAbs ≤ 9223372036854775807 := Nat.div_le_self _ _
  rw [h1]
  generalize 9223372036854775807 / b.natAbs = q at h2
  unfold wrap64
  omega

theorem wrap_prod {a b : Int} (h : a.natAbs * b.natAbs ≤ 9223372036854775807) : wrap64 (a * b) = a * b := by
  have e := Int.natAbs_mul a b
  unfold wrap64
  omega

theorem model_fits (a b : Int) (a0 : -9223372036854775808 ≤ a) (a1 : a ≤ 9223372036854775807) (b0 : -9223372036854775808 ≤ b) (b1 : b ≤ 9223372036854775807) (h : a.natAbs * b.natAbs ≤ 9223372036854775807) (w : World) :
    Calls Yba.prog 6 #[.int .i64 a, .int .i64 b] w fun e w' => e = .returned (.tuple #[.int .i64 (a * b), .bool true]) ∧ w' = w := by
  by_cases ea : a = 0
  · subst ea; rw [Int.zero_mul]; exact model_a0 b w
  by_cases eb : b = 0
  · subst eb; rw [Int.mul_zero]; exact model_b0 a w
  have q : ¬ 9223372036854775807 / b.natAbs < a.natAbs := fun hq => absurd ((quo_le (x := a.natAbs) (y := b.natAbs) (by omega)).1 hq) (by omega)
  have la : a.natAbs ≤ 9223372036854775807 := Nat.le_trans (Nat.le_mul_of_pos_right _ (by omega)) h
  have lb : b.natAbs ≤ 9223372036854775807 := Nat.le_trans (Nat.le_mul_of_pos_left _ (by omega)) h
  rw [← wrap_prod h]
  rcases Int.lt_or_gt_of_ne ea with sa | sa
  · rcases Int.lt_or_gt_of_ne eb with sb | sb
    · exact model_nn_false a b sa (by omega) sb (by omega) (decide_eq_false (by rw [quo_neg sb]; omega)) w
    · exact model_np_false a b sa (by omega) sb (by omega) (decide_eq_false (by rw [quo_pos sb]; omega)) w
  · rcases Int.lt_or_gt_of_ne eb with sb | sb
    · exact model_pn_false a b sa (by omega) sb (by omega) (decide_eq_false (by rw [quo_neg sb]; omega)) w
    · exact model_pp_false a b sa (by omega) sb (by omega) (decide_eq_false (by rw [quo_pos sb]; omega)) w

theorem model_big (a b : Int) (a0 : -9223372036854775808 ≤ a) (a1 : a ≤ 9223372036854775807) (b0 : -9223372036854775808 ≤ b) (b1 : b ≤ 9223372036854775807) (h : 9223372036854775807 < a.natAbs * b.natAbs) (w : World) :
    Calls Yba.prog 6 #[.int .i64 a, .int .i64 b] w fun e w' => e = .returned (.tuple #[.int .i64 0, .bool false]) ∧ w' = w := by
  have ea : a ≠ 0 := by rintro rfl; simp at h
  have eb : b ≠ 0 := by rintro rfl; simp at h
  by_cases ma : a = -9223372036854775808
  · subst ma; exact model_am b eb w
  by_cases mb : b = -9223372036854775808
  · subst mb; exact model_bm a ea w
  have q := (quo_le (x := a.natAbs) (y := b.natAbs) (by omega)).2 h
  rcases Int.lt_or_gt_of_ne ea with sa | sa
  · rcases Int.lt_or_gt_of_ne eb with sb | sb
    · exact model_nn_true a b sa (by omega) sb (by omega) (decide_eq_true (by rw [quo_neg sb]; omega)) w
    · exact model_np_true a b sa (by omega) sb (by omega) (decide_eq_true (by rw [quo_pos sb]; omega)) w
  · rcases Int.lt_or_gt_of_ne eb with sb | sb
    · exact model_pn_true a b sa (by omega) sb (by omega) (decide_eq_true (by rw [quo_neg sb]; omega)) w
    · exact model_pp_true a b sa (by omega) sb (by omega) (decide_eq_true (by rw [quo_pos sb]; omega)) w
end Go.Proofs.Ybulkehpm
