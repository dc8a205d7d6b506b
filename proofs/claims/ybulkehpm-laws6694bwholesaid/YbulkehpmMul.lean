/-
  Contracts of bits.Mul64, magnitude, mulSmall64 and the law's model over the seat's translation.
-/
import Derived.Test.YbulkehpmRows
import Derived.WalkKit
import Derived.WalkSpells
import Derived.WalkLawsBesides
import Derived.Lib.Mul64
import Derived.Laws.Bits64b
import Derived.Shelf.Bits.Mul64
namespace Go.Proofs.Ybulkehpm
open Go.RowKit Go.Lib

set_option maxHeartbeats 1000000 in
theorem mul64_any (x y : Nat) (hx : x < 18446744073709551616) (hy : y < 18446744073709551616) (w : World) :
    Calls Yba.prog 10 #[.int .u64 x, .int .u64 y] w fun e w' => e = .returned (.tuple #[.int .u64 ((x * y / 18446744073709551616 : Nat) : Int), .int .u64 ((x * y % 18446744073709551616 : Nat) : Int)]) ∧ w' = w := by
  obtain ⟨bd, bt, bw, hhi⟩ := Lib.mul64_hi x y hx hy
  have ba := Lib.half_mul_le (a := x / 4294967296) (b := y / 4294967296) (by omega) (by omega)
  have bb := Lib.half_mul_le (a := x / 4294967296) (b := y % 4294967296) (by omega) (by omega)
  have bc := Lib.half_mul_le (a := x % 4294967296) (b := y / 4294967296) (by omega) (by omega)
  have ba' : x / 4294967296 * (y / 4294967296) < 18446744073709551616 := by omega
  have bb' : x / 4294967296 * (y % 4294967296) < 18446744073709551616 := by omega
  have bc' : x % 4294967296 * (y / 4294967296) < 18446744073709551616 := by omega
  have bh1 : x / 4294967296 * (y / 4294967296) + (x / 4294967296 * (y % 4294967296) + x % 4294967296 * (y % 4294967296) / 4294967296) / 4294967296 < 18446744073709551616 := by omega
  have bh : x / 4294967296 * (y / 4294967296) + (x / 4294967296 * (y % 4294967296) + x % 4294967296 * (y % 4294967296) / 4294967296) / 4294967296 + ((x / 4294967296 * (y % 4294967296) + x % 4294967296 * (y % 4294967296) / 4294967296) % 4294967296 + x % 4294967296 * (y / 4294967296)) / 4294967296 < 18446744073709551616 := by omega
  go_enter Yba.func10, Yba.ntmps10
  go_wp2
  simp only [Mul64.maskN x hx, Mul64.maskN y hy, Mul64.divN, Mul64.mulN, Mul64.addN, Mul64.wrapN _ bd, Mul64.wrapN _ bb', Mul64.wrapN _ bt, Mul64.maskN _ bt, Mul64.wrapN _ bc', Mul64.wrapN _ bw, Mul64.wrapN _ ba', Mul64.wrapN _ bh1, Mul64.wrapN _ bh, Mul64.wrapM (x * y)]
  rw [hhi]
  go_ret2
  exact ⟨rfl, rfl⟩

theorem mag_wrap (n : Int) (h0 : -9223372036854775808 ≤ n) (h : n < 0) : IntKind.u64.wrap (wrap64 (-n)) = (n.natAbs : Int) := by
  rw [IntKind.wrap_u64]
  unfold wrap64
  omega
theorem mag_wrap' (n : Int) (h1 : n ≤ 9223372036854775807) (h : 0 ≤ n) : n = (n.natAbs : Int) := by omega

set_option maxHeartbeats 1000000 in
theorem magnitude_neg (n : Int) (h0 : -9223372036854775808 ≤ n) (h : n < 0) (w : World) : Calls Yba.prog 11 #[.int .i64 n] w fun e w' => e = .returned (.int .u64 (n.natAbs : Int)) ∧ w' = w := by
  rw [← mag_wrap n h0 h]
  go_enter Yba.func11, Yba.ntmps11
  go_wp2
  go_ret
  exact ⟨rfl, rfl⟩
set_option maxHeartbeats 1000000 in
theorem magnitude_pos (n : Int) (h1 : n ≤ 9223372036854775807) (h : 0 ≤ n) (w : World) : Calls Yba.prog 11 #[.int .i64 n] w fun e w' => e = .returned (.int .u64 (n.natAbs : Int)) ∧ w' = w := by
  go_enter Yba.func11, Yba.ntmps11
  go_wp2
  go_ret
  exact ⟨by rw [← mag_wrap' n h1 h]; rfl, rfl⟩
theorem magnitude_any (n : Int) (h0 : -9223372036854775808 ≤ n) (h1 : n ≤ 9223372036854775807) (w : World) : Calls Yba.prog 11 #[.int .i64 n] w fun e w' => e = .returned (.int .u64 (n.natAbs : Int)) ∧ w' = w := by
  by_cases h : n < 0
  · exact magnitude_neg n h0 h w
  · exact magnitude_pos n h1 (by omega) w


/-- The sign and size of a product. -/
theorem prod_neg {a b : Int} (h : (decide (a < 0) != decide (b < 0)) = true) : -((a.natAbs * b.natAbs : Nat) : Int) = a * b := by
  rw [← Int.natAbs_mul]
  have : a * b ≤ 0 := by
    by_cases ha : a < 0
    · by_cases hb : b < 0
      · simp [ha, hb] at h
      · exact Int.mul_nonpos_of_nonpos_of_nonneg (by omega) (by omega)
    · by_cases hb : b < 0
      · exact Int.mul_nonpos_of_nonneg_of_nonpos (by omega) (by omega)
      · simp [ha, hb] at h
  omega
theorem prod_pos {a b : Int} (h : (decide (a < 0) != decide (b < 0)) = false) : ((a.natAbs * b.natAbs : Nat) : Int) = a * b := by
  rw [← Int.natAbs_mul]
  have : 0 ≤ a * b := by
    by_cases ha : a < 0
    · by_cases hb : b < 0
      · exact Int.mul_nonneg_of_nonpos_of_nonpos (by omega) (by omega)
      · simp [ha, hb] at h
    · by_cases hb : b < 0
      · simp [ha, hb] at h
      · exact Int.mul_nonneg (by omega) (by omega)
  omega

set_option maxHeartbeats 1000000 in
theorem mulSmall_big (a b : Int) (a0 : -9223372036854775808 ≤ a) (a1 : a ≤ 9223372036854775807) (b0 : -9223372036854775808 ≤ b) (b1 : b ≤ 9223372036854775807) (h : 9223372036854775807 < a.natAbs * b.natAbs) (w : World) :
    Calls Yba.prog 5 #[.int .i64 a, .int .i64 b] w fun e w' => e = .returned (.tuple #[.int .i64 0, .bool false]) ∧ w' = w := by
  have hm := mul64_any a.natAbs b.natAbs (by omega) (by omega) w
  generalize a.natAbs * b.natAbs = p at h hm
  by_cases hp : p / 18446744073709551616 = 0
  · have e1 : p % 18446744073709551616 = p := by omega
    rw [hp, e1] at hm
    have h' : (9223372036854775807 : Int) < (p : Int) := by omega
    go_enter Yba.func5, Yba.ntmps5
    go_wp2_with (first
      | (go_at_call 11; refine (magnitude_any _ (by assumption) (by assumption) _).mono ?_; rintro e w' ⟨rfl, rfl⟩)
      | (go_at_call 10; refine hm.mono ?_; rintro e w' ⟨rfl, rfl⟩))
    go_ret2
    exact ⟨rfl, rfl⟩
  · generalize p / 18446744073709551616 = hi at hp hm
    have h' : (((hi : Nat) : Int) != 0) = true := by simp; omega
    go_enter Yba.func5, Yba.ntmps5
    go_wp2_with (first
      | (go_at_call 11; refine (magnitude_any _ (by assumption) (by assumption) _).mono ?_; rintro e w' ⟨rfl, rfl⟩)
      | (go_at_call 10; refine hm.mono ?_; rintro e w' ⟨rfl, rfl⟩))
    go_ret2
    exact ⟨rfl, rfl⟩

set_option maxHeartbeats 1000000 in
theorem mulSmall_fits (a b : Int) (a0 : -9223372036854775808 ≤ a) (a1 : a ≤ 9223372036854775807) (b0 : -9223372036854775808 ≤ b) (b1 : b ≤ 9223372036854775807) (h : a.natAbs * b.natAbs ≤ 9223372036854775807) (w : World) :
    Calls Yba.prog 5 #[.int .i64 a, .int .i64 b] w fun e w' => e = .returned (.tuple #[.int .i64 (a * b), .bool true]) ∧ w' = w := by
  have hm := mul64_any a.natAbs b.natAbs (by omega) (by omega) w
  cases hs : (decide (a < 0) != decide (b < 0)) with
  | true =>
    have e0 := prod_neg hs
    have hs' : (!(decide (a < 0) == decide (b < 0))) = true := hs
    clear hs
    rw [← e0]
    generalize a.natAbs * b.natAbs = p at h hm
    have e1 : p % 18446744073709551616 = p := by omega
    have e2 : p / 18446744073709551616 = 0 := by omega
    rw [e1, e2] at hm
    have h' : decide ((9223372036854775807 : Int) < (p : Int)) = false := decide_eq_false (by omega)
    clear e0 e1 e2
    go_enter Yba.func5, Yba.ntmps5
    go_wp2_with (first
      | (go_at_call 11; refine (magnitude_any _ (by assumption) (by assumption) _).mono ?_; rintro e w' ⟨rfl, rfl⟩)
      | (go_at_call 10; refine hm.mono ?_; rintro e w' ⟨rfl, rfl⟩))
    go_ret2
    exact ⟨rfl, rfl⟩
  | false =>
    have e0 := prod_pos hs
    have hs' : (!(decide (a < 0) == decide (b < 0))) = false := hs
    clear hs
    rw [← e0]
    generalize a.natAbs * b.natAbs = p at h hm
    have e1 : p % 18446744073709551616 = p := by omega
    have e2 : p / 18446744073709551616 = 0 := by omega
    rw [e1, e2] at hm
    have h' : decide ((9223372036854775807 : Int) < (p : Int)) = false := decide_eq_false (by omega)
    clear e0 e1 e2
    go_enter Yba.func5, Yba.ntmps5
    go_wp2_with (first
      | (go_at_call 11; refine (magnitude_any _ (by assumption) (by assumption) _).mono ?_; rintro e w' ⟨rfl, rfl⟩)
      | (go_at_call 10; refine hm.mono ?_; rintro e w' ⟨rfl, rfl⟩))
    go_ret2
    exact ⟨rfl, rfl⟩
end Go.Proofs.Ybulkehpm
