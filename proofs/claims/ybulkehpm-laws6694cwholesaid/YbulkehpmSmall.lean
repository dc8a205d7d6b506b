/-
  Contracts of cmp.Compare, zzs6694csign3, zzs6694ckey, compareMagnitude, compareWide over the seat's translation.
-/
import Derived.Test.YbulkehpmRows
import Derived.WalkKit
import Derived.WalkSpells
import Derived.WalkLawsBesides
namespace Go.Proofs.Ybulkehpm
open Go.RowKit

def sgn (a b : Int) : Int := if a < b then -1 else if b < a then 1 else 0

set_option maxHeartbeats 400000 in
theorem compare_any (a b : Int) (w : World) : Calls Yba.prog 13 #[.int .u64 a, .int .u64 b] w fun e w' => e = .returned (.int .i64 (sgn a b)) ∧ w' = w := by
  unfold sgn
  rcases Int.lt_trichotomy a b with h | h | h
  · rw [if_pos h]
    go_enter Yba.func13, Yba.ntmps13
    go_wp2
    go_ret
    exact ⟨rfl, rfl⟩
  · subst h
    rw [if_neg (by omega), if_neg (by omega)]
    go_enter Yba.func13, Yba.ntmps13
    go_wp2
    go_ret
    exact ⟨rfl, rfl⟩
  · rw [if_neg (by omega), if_pos h]
    go_enter Yba.func13, Yba.ntmps13
    go_wp2
    go_ret
    exact ⟨rfl, rfl⟩

set_option maxHeartbeats 400000 in
theorem sign3_any (a b : Int) (w : World) : Calls Yba.prog 9 #[.int .u64 a, .int .u64 b] w fun e w' => e = .returned (.int .i64 (sgn a b)) ∧ w' = w := by
  unfold sgn
  rcases Int.lt_trichotomy a b with h | h | h
  · rw [if_pos h]
    go_enter Yba.func9, Yba.ntmps9
    go_wp2
    go_ret
    exact ⟨rfl, rfl⟩
  · subst h
    rw [if_neg (by omega), if_neg (by omega)]
    go_enter Yba.func9, Yba.ntmps9
    go_wp2
    go_ret
    exact ⟨rfl, rfl⟩
  · rw [if_neg (by omega), if_pos h]
    go_enter Yba.func9, Yba.ntmps9
    go_wp2
    go_ret
    exact ⟨rfl, rfl⟩

set_option maxHeartbeats 400000 in
theorem key_no (h l : Int) (w : World) : Calls Yba.prog 8 #[.bool false, .int .u64 h, .int .u64 l] w fun e w' => e = .returned (.tuple #[.int .u64 1, .int .u64 h, .int .u64 l]) ∧ w' = w := by
  go_enter Yba.func8, Yba.ntmps8
  go_wp2
  go_ret3
  exact ⟨rfl, rfl⟩

theorem u64_not (x : Int) (h0 : 0 ≤ x) (h1 : x ≤ 18446744073709551615) : bits .xor .u64 IntKind.u64.max x = 18446744073709551615 - x := by
  obtain ⟨n, rfl⟩ := Int.eq_ofNat_of_zero_le h0
  have e : IntKind.u64.max = 18446744073709551615 := by decide
  rw [e]
  show IntKind.u64.wrap ((BitVec.ofInt 64 18446744073709551615 ^^^ BitVec.ofInt 64 (n : Int)).toNat : Int) = _
  have h2 : BitVec.ofInt 64 18446744073709551615 = BitVec.allOnes 64 := by decide
  rw [h2, BitVec.allOnes_xor, BitVec.toNat_not, ofInt_u64 n (by omega)]
  simp [IntKind.wrap, IntKind.bits, IntKind.signed]
  omega

set_option maxHeartbeats 400000 in
theorem key_yes (x l : Int) (hh0 : 0 ≤ x) (hh1 : x ≤ 18446744073709551615) (hl0 : 0 ≤ l) (hl1 : l ≤ 18446744073709551615) (w : World) : Calls Yba.prog 8 #[.bool true, .int .u64 x, .int .u64 l] w fun e w' => e = .returned (.tuple #[.int .u64 0, .int .u64 (18446744073709551615 - x), .int .u64 (18446744073709551615 - l)]) ∧ w' = w := by
  go_enter Yba.func8, Yba.ntmps8
  go_wp2
  go_ret3
  refine ⟨?_, rfl⟩
  rw [← u64_not x hh0 hh1, ← u64_not l hl0 hl1]
  rfl

/-- What compareMagnitude answers. -/
def sgn2 (xh xl yh yl : Int) : Int := if sgn xh yh = 0 then sgn xl yl else sgn xh yh

set_option maxHeartbeats 400000 in
theorem compareMagnitude_any (xn yn : Bool) (xh xl yh yl : Int) (w : World) :
    Calls Yba.prog 12 #[.agg #[.bool xn, .int .u64 xh, .int .u64 xl], .agg #[.bool yn, .int .u64 yh, .int .u64 yl]] w fun e w' => e = .returned (.int .i64 (sgn2 xh xl yh yl)) ∧ w' = (w.alloc (.cells #[.bool xn, .int .u64 xh, .int .u64 xl] 27)).alloc (.cells #[.bool yn, .int .u64 yh, .int .u64 yl] 27) := by
  unfold sgn2
  by_cases h : sgn xh yh = 0
  · rw [if_pos h]
    have h' : (sgn xh yh != 0) = false := by simp [h]
    clear h
    go_enter Yba.func12, Yba.ntmps12
    go_wp2_with (go_at_call 13; refine (compare_any _ _ _).mono ?_; rintro e w' ⟨rfl, rfl⟩)
    go_ret
    exact ⟨rfl, rfl⟩
  · rw [if_neg h]
    have h' : (sgn xh yh != 0) = true := by simp [h]
    clear h
    go_enter Yba.func12, Yba.ntmps12
    go_wp2_with (go_at_call 13; refine (compare_any _ _ _).mono ?_; rintro e w' ⟨rfl, rfl⟩)
    go_ret
    exact ⟨rfl, rfl⟩

theorem sgn_cases (a b : Int) : sgn a b = -1 ∨ sgn a b = 0 ∨ sgn a b = 1 := by
  unfold sgn
  split
  · simp
  · split <;> simp
theorem sgn2_cases (a b c d : Int) : sgn2 a b c d = -1 ∨ sgn2 a b c d = 0 ∨ sgn2 a b c d = 1 := by
  unfold sgn2; split
  · exact sgn_cases _ _
  · exact sgn_cases _ _

/-- What compareWide answers. -/
def cmpW (xn : Bool) (xh xl : Int) (yn : Bool) (yh yl : Int) : Int :=
  if xn && !yn then -1 else if !xn && yn then 1 else if xn then -(sgn2 xh xl yh yl) else sgn2 xh xl yh yl

set_option maxHeartbeats 400000 in
theorem compareWide_any (xn yn : Bool) (xh xl yh yl : Int) (w : World) :
    Calls Yba.prog 7 #[.agg #[.bool xn, .int .u64 xh, .int .u64 xl], .agg #[.bool yn, .int .u64 yh, .int .u64 yl]] w fun e w' => e = .returned (.int .i64 (cmpW xn xh xl yn yh yl)) ∧ Grown w w' := by
  have hb := sgn2_cases xh xl yh yl
  have hb1 : -1 ≤ sgn2 xh xl yh yl ∧ sgn2 xh xl yh yl ≤ 1 := by omega
  obtain ⟨hb2, hb3⟩ := hb1
  clear hb
  cases xn <;> cases yn
  all_goals
    go_enter Yba.func7, Yba.ntmps7
    go_wp2_with (go_at_call 12; refine (compareMagnitude_any _ _ _ _ _ _ _).mono ?_; rintro e w' ⟨rfl, rfl⟩)
    go_ret
    exact ⟨rfl, by repeat (first | exact Grown.refl _ | apply Grown.drew | apply Grown.alloc)⟩

end Go.Proofs.Ybulkehpm
