/-
  Walks: object, parent, same, clone.
-/
import Derived.Test.YbulkehokParts
namespace Go.Proofs.Ybulkehok
open Go.RowKit

set_option maxHeartbeats 400000 in
theorem object_nil (a0 a : Option Addr) (n0 c0 c : Nat) (w : World) :
    Calls Yba.prog 6 #[.agg #[.slice a0 n0 c0, .slice a 0 c]] w fun e w' => e = .returned (.string rootName) ∧ Below w.heap.size w w' := by
  go_enter Yba.func6, Yba.ntmps6
  go_wp2
  go_ret
  exact ⟨rfl, (Below.refl _ _).alloc (Nat.le_refl _) _⟩

set_option maxHeartbeats 400000 in
theorem object_pos (a0 : Option Addr) (n0 c0 b off n c : Nat) (s : ByteArray) (w : World) (hm : n + 1 ≤ maxLen) (hc : w.cell? ⟨b, off + n, none⟩ = some (.string s)) :
    Calls Yba.prog 6 #[.agg #[.slice a0 n0 c0, .slice (some ⟨b, off, none⟩) (n + 1) c]] w fun e w' => e = .returned (.string s) ∧ Below w.heap.size w w' := by
  unfold maxLen at hm
  have hc1 : ∀ o, (w.alloc o).cell? ⟨b, off + n, none⟩ = some (.string s) := fun o => Lib.cell?_alloc_some o hc
  go_enter Yba.func6, Yba.ntmps6
  go_wp2
  go_ret
  exact ⟨rfl, (Below.refl _ _).alloc (Nat.le_refl _) _⟩

theorem object_any (a0 a : Option Addr) (n0 c0 n c : Nat) (ss : List ByteArray) (w : World) (hn : ss.length = n) (hm : n ≤ maxLen) (h : Strs w a ss) :
    Calls Yba.prog 6 #[.agg #[.slice a0 n0 c0, .slice a n c]] w fun e w' => e = .returned (.string (lastOr ss)) ∧ Below w.heap.size w w' := by
  cases n with
  | zero =>
    obtain rfl : ss = [] := List.eq_nil_of_length_eq_zero hn
    exact object_nil a0 a n0 c0 c w
  | succ n =>
    rcases h with h | ⟨b, off, rfl, hc⟩
    · subst h; simp at hn
    · have h1 := hc n (by omega)
      have e1 : lastOr ss = ss.getD n ByteArray.empty := by rw [lastOr_pos ss (by omega), hn]; rfl
      rw [e1]
      exact object_pos a0 n0 c0 b off n c _ w hm h1


set_option maxHeartbeats 400000 in
theorem parent_any (a0 : Option Addr) (n0 c0 b off n c : Nat) (ss : List ByteArray) (w : World) (hn : ss.length = n) (hm : n + 1 ≤ maxLen) (hcap : n + 1 ≤ c) (h : Strs w (some ⟨b, off, none⟩) ss) :
    Calls Yba.prog 8 #[.agg #[.slice a0 n0 c0, .slice (some ⟨b, off, none⟩) (n + 1) c]] w fun e w' => e = .returned (.string (lastOr ss)) ∧ Below w.heap.size w w' := by
  unfold maxLen at hm
  go_enter Yba.func8, Yba.ntmps8
  go_wp2_with fail
  refine (object_any none (some ⟨b, off, none⟩) 0 0 n c ss _ hn (by unfold maxLen; omega) (h.below ((Below.refl _ _).alloc (Nat.le_refl _) _))).mono ?_
  rintro e w1 ⟨rfl, hb⟩
  go_wp2
  go_ret
  exact ⟨rfl, ((Below.refl _ _).alloc (Nat.le_refl _) _).trans (hb.mono (by simp))⟩

set_option maxHeartbeats 400000 in
theorem same_any (a b : Option Addr) (n c c' : Nat) (ss : List ByteArray) (w : World) (hn : ss.length = n) (hm : n ≤ maxLen) (hab : a.isNone = b.isNone) (ha : Strs w a ss) (hb : Strs w b ss) :
    Calls Yba.prog 7 #[.slice a n c, .slice b n c'] w fun e w' => e = .returned (.bool true) ∧ Below w.heap.size w w' := by
  have q22 : ∀ (w : World) (a : Option Addr) (n c n' c' : Nat), (binOp .eql 22 (.slice a n c) (.slice none n' c')).run Yba.prog w = .ok (.bool a.isNone) w := fun w a n c n' c' => Lib.run_eql_slice_nil w _ _ a n c n' c' Yba.underlying22
  unfold maxLen at hm
  go_enter Yba.func7, Yba.ntmps7
  go_wp2
  go_loopw [5] (fun i wr => ∃ k : Nat, k ≤ n ∧ i = .int .i64 k ∧ Below w.heap.size w wr) (fun i _ => n - (intOf i).toNat)
  case atStart => exact ⟨0, Nat.zero_le _, rfl, Below.refl _ _⟩
  case round =>
    obtain ⟨k, hk, rfl, hbel⟩ := hrel
    by_cases hlt : k < n
    · have ha1 := ha.below hbel
      have hb1 := hb.below hbel
      rcases ha1 with h | ⟨ba, oa, rfl, ca⟩
      · subst h; simp at hn; omega
      rcases hb1 with h | ⟨bb, ob, rfl, cb⟩
      · subst h; simp at hn; omega
      have ca1 := ca k (by omega)
      have cb1 := cb k (by omega)
      clear ca cb ha hb hn
      generalize ss.getD k ByteArray.empty = s at ca1 cb1
      go_wp2
      go_region
      all_goals go_wp2
      all_goals
        go_roundw
        case rel => exact ⟨k + 1, by omega, by go_num, hbel.drew⟩
        case measure => simp [intOf]; omega
    · go_wp2
      go_ret
      exact ⟨rfl, hbel⟩

theorem Yba.info9 : (Yba.prog.info? 9).map (fun i => (i.zero, i.size, i.bytes)) = some (some (.string ByteArray.empty), 1, 16) := by kernel_rfl
theorem Yba.size9 : (Yba.prog.info? 9).map (·.size) = some 1 := by kernel_rfl

set_option maxHeartbeats 400000 in
theorem clone_some (ad : Addr) (n c : Nat) (ss : List ByteArray) (w : World) (hn : ss.length = n) (hm : n ≤ 1048576) (h : Strs w (some ad) ss) :
    Calls Yba.prog 5 #[.slice (some ad) n c] w fun e w' => e = .returned (.slice (some ⟨w.heap.size, 0, none⟩) n n) ∧ Strs w' (some ⟨w.heap.size, 0, none⟩) ss ∧ Below w.heap.size w w' := by
  have q22 : ∀ (w : World) (a : Option Addr) (n c n' c' : Nat), (binOp .eql 22 (.slice a n c) (.slice none n' c')).run Yba.prog w = .ok (.bool a.isNone) w := fun w a n c n' c' => Lib.run_eql_slice_nil w _ _ a n c n' c' Yba.underlying22
  obtain ⟨i0, hi, hz0, hz1, hz2⟩ := info_parts Yba.info9
  go_enter Yba.func5, Yba.ntmps5
  go_wp2_with (first | (at_make; refine wpList_make_full _ rfl _ _ 22 rfl w.heap.size 9 i0 (.string ByteArray.empty) 1 Yba.underlying22 hi hz0 hz1 _ _ _ _ n rfl rfl rfl rfl (by rw [hz2]; omega) (by unfold maxLen; omega) (Nat.le_refl _) ?_))
  intro w1 hown hgrow
  have hb1 : Below w.heap.size w w1 := (Below.refl _ _).grown hgrow (Nat.le_refl _) (by intro k hk; cases hk)
  have hblk := ownsRow_block hown
  have hs1 := h.below hb1
  have hsrc := hs1.src
  go_wp2_with (refine wpList_copy_splice rfl (.tmp 9) (.tmp 10) 22 22 rfl 9 Yba.underlying22 Yba.size9 _ _ _ _ _ _ rfl rfl w.heap.size 0 _ 9 hblk (ss.map Value.string) (by simp [hn]) (fun hp => ⟨rfl, hsrc (by simpa using hp)⟩) (by simp [hn, size_madeCells]) (map_oneCell _) w.heap.size w hb1 (Nat.le_refl _) ?_)
  intro w2 hg2 hb2
  rw [splice_all _ _ (by simp [hn, size_madeCells])] at hg2
  have hfin : Strs w2 (some ⟨w.heap.size, 0, none⟩) ss := Strs.of_block hg2.out
  clear hg2 hsrc hs1 hblk hown hgrow h
  go_wp2
  go_ret
  exact ⟨rfl, hfin, hb2⟩

set_option maxHeartbeats 400000 in
theorem clone_nil (w : World) : Calls Yba.prog 5 #[.slice none 0 0] w fun e w' => e = .returned (.slice none 0 0) ∧ w' = w := by
  have q22 : ∀ (w : World) (a : Option Addr) (n c n' c' : Nat), (binOp .eql 22 (.slice a n c) (.slice none n' c')).run Yba.prog w = .ok (.bool a.isNone) w := fun w a n c n' c' => Lib.run_eql_slice_nil w _ _ a n c n' c' Yba.underlying22
  go_enter Yba.func5, Yba.ntmps5
  go_wp2
  go_ret
  exact ⟨rfl, rfl⟩

theorem clone_any (a : Option Addr) (n c : Nat) (ss : List ByteArray) (w : World) (hn : ss.length = n) (hm : n ≤ 1048576) (hnil : a = none → n = 0 ∧ c = 0) (h : Strs w a ss) :
    Calls Yba.prog 5 #[.slice a n c] w fun e w' => ∃ a' c', e = .returned (.slice a' n c') ∧ a'.isNone = a.isNone ∧ Strs w' a' ss ∧ Below w.heap.size w w' := by
  cases a with
  | none =>
    obtain ⟨rfl, rfl⟩ := hnil rfl
    exact (clone_nil w).mono fun e w' ⟨he, hw⟩ => ⟨none, 0, he, rfl, .inl (List.eq_nil_of_length_eq_zero hn), by rw [hw]; exact Below.refl _ _⟩
  | some ad => exact (clone_some ad n c ss w hn hm h).mono fun e w' ⟨he, hs, hb⟩ => ⟨_, _, he, rfl, hs, hb⟩

end Go.Proofs.Ybulkehok
