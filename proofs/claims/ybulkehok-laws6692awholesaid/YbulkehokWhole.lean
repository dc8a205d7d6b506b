/-
  The walk of LawS6692AWhole.
-/
import Derived.Test.YbulkehokWalks
namespace Go.Proofs.Ybulkehok
open Go.RowKit

set_option maxHeartbeats 400000 in
theorem whole_long (a0 a1 : Option Addr) (n0 c0 n1 c1 : Nat) (w : World) (r0 : n0 ≤ 8796093022208) (r1 : n1 ≤ 8796093022208) (h : 1048576 < n0 + n1) :
    Calls Yba.prog 3 #[.slice a0 n0 c0, .slice a1 n1 c1] w fun e w' => e = .returned (.bool true) ∧ Below w.heap.size w w' := by
  have h' : (1048576 : Int) < (n0 : Int) + (n1 : Int) := by omega
  go_enter Yba.func3, Yba.ntmps3
  go_wp2
  go_ret
  exact ⟨rfl, Below.refl _ _⟩

set_option maxHeartbeats 1000000 in
theorem whole_short (a0 a1 : Option Addr) (n0 c0 n1 c1 : Nat) (ss0 ss1 : List ByteArray) (w : World) (h : n0 + n1 ≤ 1048576) (hn0 : ss0.length = n0) (hn1 : ss1.length = n1)
    (z0 : a0 = none → n0 = 0 ∧ c0 = 0) (z1 : a1 = none → n1 = 0 ∧ c1 = 0) (h0 : Strs w a0 ss0) (h1 : Strs w a1 ss1) :
    Calls Yba.prog 3 #[.slice a0 n0 c0, .slice a1 n1 c1] w fun e w' => e = .returned (.bool true) ∧ Below w.heap.size w w' := by
  have h' : ¬ (1048576 : Int) < (n0 : Int) + (n1 : Int) := by omega
  go_enter Yba.func3, Yba.ntmps3
  go_wp2_with fail
  refine (clone_any a0 n0 c0 ss0 w hn0 (by omega) z0 h0).mono ?_
  rintro e w1 ⟨b0, d0, rfl, i0, s0, hb1⟩
  go_wp2_with fail
  refine (clone_any a1 n1 c1 ss1 w1 hn1 (by omega) z1 (h1.below hb1)).mono ?_
  rintro e w2 ⟨b1, d1, rfl, i1, s1, hb2⟩
  have s0' := s0.below hb2
  have h0' := (h0.below hb1).below hb2
  have h1' := (h1.below hb1).below hb2
  have hbw : Below w.heap.size w w2 := hb1.trans (hb2.mono hb1.size)
  clear s0 h0 h1
  have I0 : Hid (b0.isNone = a0.isNone) := i0
  have I1 : Hid (b1.isNone = a1.isNone) := i1
  have HN0 : Hid (ss0.length = n0) := hn0
  have HN1 : Hid (ss1.length = n1) := hn1
  clear i0 i1 hn0 hn1 z0 z1
  go_wp2_with fail
  go_loop [7, 8] (fun s i => ∃ k : Nat, k ≤ n1 ∧ i = .int .i64 k ∧ s = .string (lastOr (ss1.take k))) (fun _ i => n1 - (intOf i).toNat)
  case atStart => exact ⟨0, Nat.zero_le _, rfl, rfl⟩
  case round =>
    obtain ⟨k, hk, rfl, rfl⟩ := hrel
    by_cases hlt : k < n1
    · rcases s1 with s1 | ⟨bb, ob, rfl, cb⟩
      · have := HN1.out; subst s1; simp at this; omega
      have cb1 := cb k (by have := HN1.out; omega)
      clear cb
      have E : Hid (lastOr (ss1.take (k + 1)) = ss1.getD k ByteArray.empty) := lastOr_take_succ ss1 k (by have := HN1.out; omega)
      generalize ss1.getD k ByteArray.empty = t at cb1 E
      generalize lastOr (ss1.take k) = t0
      go_wp2_with fail
      go_round
      case rel => exact ⟨k + 1, by omega, by go_num, by rw [E.out]⟩
      case measure => simp [intOf]; omega
    · have e1 : lastOr (ss1.take k) = lastOr ss1 := by rw [List.take_of_length_le (by have := HN1.out; omega)]
      rw [e1]
      clear e1
      go_wp2_with fail
      refine (object_any a0 a1 n0 c0 n1 c1 ss1 w2 HN1.out (by unfold maxLen; omega) h1').mono ?_
      rintro e w3 ⟨rfl, hb3⟩
      generalize lastOr ss1 = t
      go_wp2_with fail
      refine (same_any a0 b0 n0 c0 d0 ss0 w3 HN0.out (by unfold maxLen; omega) I0.out.symm (h0'.below hb3) (s0'.below hb3)).mono ?_
      rintro e w4 ⟨rfl, hb4⟩
      go_wp2_with fail
      refine (same_any a1 b1 n1 c1 d1 ss1 w4 HN1.out (by unfold maxLen; omega) I1.out.symm ((h1'.below hb3).below hb4) ((s1.below hb3).below hb4)).mono ?_
      rintro e w5 ⟨rfl, hb5⟩
      go_wp2_with fail
      go_ret
      exact ⟨rfl, ((hbw.trans (hb3.mono hbw.size)).trans (hb4.mono (Nat.le_trans hbw.size hb3.size))).trans (hb5.mono (Nat.le_trans (Nat.le_trans hbw.size hb3.size) hb4.size))⟩

end Go.Proofs.Ybulkehok
