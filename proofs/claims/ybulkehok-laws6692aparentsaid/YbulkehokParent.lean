/-
  The walk of LawS6692AParent.
-/
import Derived.Test.YbulkehokWalks
namespace Go.Proofs.Ybulkehok
open Go.RowKit

set_option maxHeartbeats 400000 in
theorem parent_long (a0 : Option Addr) (n0 c0 : Nat) (x : ByteArray) (w : World) (h : 1048576 < n0) :
    Calls Yba.prog 4 #[.slice a0 n0 c0, .string x] w fun e w' => e = .returned (.bool true) ∧ Below w.heap.size w w' := by
  have h' : (1048576 : Int) < (n0 : Int) := by omega
  go_enter Yba.func4, Yba.ntmps4
  go_wp2
  go_ret
  exact ⟨rfl, Below.refl _ _⟩

/-- The row behind 'copy(longer, ids)' and 'longer[len(ids)] = x'. -/
theorem splice_set (L : List Value) (ss : List ByteArray) (x : ByteArray) (h : L.length = ss.length + 1) :
    ((splice L 0 (ss.map Value.string)).set ss.length (.string x)) = (ss ++ [x]).map Value.string := by
  have e1 : (L.drop ss.length).length = 1 := by simp [h]
  obtain ⟨y, hy⟩ := List.length_eq_one_iff.1 e1
  simp only [splice, List.take_zero, List.nil_append, List.length_map, Nat.zero_add, hy, List.map_append, List.map_cons, List.map_nil]
  rw [List.set_append_right _ _ (by simp)]
  simp

theorem made_len (v : Value) (n : Nat) : (madeCells #[v] n).toList.length = n := by rw [Array.length_toList, size_madeCells]
theorem block_set {w : World} {g e j : Nat} {R : List Value} {v : Value} (h : w.heap[g]? = some (.cells R.toArray e (0, 0))) : (w.setCell ⟨g, j, none⟩ v).heap[g]? = some (.cells (R.set j v).toArray e (0, 0)) := by
  rw [heap_setCell_same w g j _ e v h]
  simp
theorem cell_in {w : World} {g e j : Nat} {R : List Value} (h : w.heap[g]? = some (.cells R.toArray e (0, 0))) (hj : j < R.length) : ∃ v, w.cell? ⟨g, j, none⟩ = some v :=
  ⟨R[j], by rw [cell_of_row w g j _ e (0, 0) h]; simp [hj]⟩

set_option maxHeartbeats 1000000 in
theorem parent_short (a0 : Option Addr) (n0 c0 : Nat) (ss : List ByteArray) (x : ByteArray) (w : World) (h : n0 ≤ 1048576) (hn0 : ss.length = n0)
    (z0 : a0 = none → n0 = 0 ∧ c0 = 0) (h0 : Strs w a0 ss) :
    Calls Yba.prog 4 #[.slice a0 n0 c0, .string x] w fun e w' => e = .returned (.bool true) ∧ Below w.heap.size w w' := by
  have h' : ¬ (1048576 : Int) < (n0 : Int) := by omega
  obtain ⟨i0, hi, hz0, hz1, hz2⟩ := info_parts Yba.info9
  go_enter Yba.func4, Yba.ntmps4
  go_wp2_with (first | (at_make; refine wpList_make_full _ rfl _ _ 22 rfl w.heap.size 9 i0 (.string ByteArray.empty) 1 Yba.underlying22 hi hz0 hz1 _ _ _ _ (n0 + 1) rfl rfl (by omega) (by omega) (by rw [hz2]; omega) (by unfold maxLen; omega) (Nat.le_refl _) ?_))
  intro w1 hown hgrow
  have hb1 : Below w.heap.size w w1 := (Below.refl _ _).grown hgrow (Nat.le_refl _) (by intro k hk; cases hk)
  have hblk := ownsRow_block hown
  have hs1 := h0.below hb1
  have hsrc := hs1.src
  clear hown hgrow
  have hmin : (ss.map Value.string).length = Nat.min n0 (n0 + 1) := by rw [List.length_map, hn0]; exact (Nat.min_eq_left (by omega)).symm
  go_wp2_with (refine wpList_copy_splice rfl (.tmp 16) (.tmp 17) 22 22 rfl 9 Yba.underlying22 Yba.size9 _ _ _ _ _ _ rfl rfl w.heap.size 0 _ 9 hblk (ss.map Value.string) hmin (fun hp => ⟨rfl, hsrc (by simpa using hp)⟩) (by simp [hn0, size_madeCells]) (map_oneCell _) w.heap.size w hb1 (Nat.le_refl _) ?_)
  intro w2 hg2 hb2
  have hL : (madeCells #[Value.string ByteArray.empty] (n0 + 1)).toList.length = ss.length + 1 := by rw [made_len, hn0]
  have E : Hid ((splice (madeCells #[Value.string ByteArray.empty] (n0 + 1)).toList 0 (ss.map Value.string)).set ss.length (.string x) = (ss ++ [x]).map Value.string) := splice_set _ ss x hL
  have hRl : (splice (madeCells #[Value.string ByteArray.empty] (n0 + 1)).toList 0 (ss.map Value.string)).length = n0 + 1 := by rw [length_splice _ _ _ (by rw [made_len, List.length_map, hn0]; omega), made_len]
  generalize splice (madeCells #[Value.string ByteArray.empty] (n0 + 1)).toList 0 (ss.map Value.string) = R at hg2 E hRl
  obtain ⟨old, hcell⟩ := cell_in (j := n0) hg2.out (by omega)
  have hfrz : w2.frozen? ⟨w.heap.size, n0, none⟩ = false := frozen_of_row w2 w.heap.size n0 _ 9 hg2.out
  have hblk2 := block_set (j := n0) (v := .string x) hg2.out
  have hS : Strs (w2.setCell ⟨w.heap.size, n0, none⟩ (.string x)) (some ⟨w.heap.size, 0, none⟩) (ss ++ [x]) := Strs.of_block (e := 9) (by rw [hblk2, ← E.out, hn0])
  have hb3 : Below w.heap.size w (w2.setCell ⟨w.heap.size, n0, none⟩ (.string x)) := hb2.setCell (Nat.le_refl _) _
  have hs3 := h0.below hb3
  clear hblk2 E hg2 hRl hL hmin hsrc hs1 hblk
  have HN0 : Hid (ss.length = n0) := hn0
  clear hn0
  go_wp2_with fail
  refine (clone_any a0 n0 c0 ss _ HN0.out (by omega) z0 hs3).mono ?_
  rintro e w4 ⟨b4, d4, rfl, i4, s4, hb4⟩
  have hS4 := hS.below hb4
  have hbw4 := hb3.trans (hb4.mono hb3.size)
  clear hS hs3 hcell hfrz hb4
  go_wp2_with fail
  refine (parent_any none 0 0 w.heap.size 0 n0 (n0 + 1) ss w4 HN0.out (by unfold maxLen; omega) (Nat.le_refl _) (by have := hS4.take ss.length; rwa [List.take_left] at this)).mono ?_
  rintro e w5 ⟨rfl, hb5⟩
  have s5 := s4.below hb5
  have hS5 := hS4.below hb5
  have hbw5 := hbw4.trans (hb5.mono hbw4.size)
  clear s4 hS4 hb5 hbw4
  go_wp2_with fail
  refine (object_any none b4 0 0 n0 d4 ss w5 HN0.out (by unfold maxLen; omega) s5).mono ?_
  rintro e w6 ⟨rfl, hb6⟩
  have hS6 := hS5.below hb6
  have hbw6 := hbw5.trans (hb6.mono hbw5.size)
  clear s5 hS5 hb6 hbw5
  generalize lastOr ss = t
  go_wp2_with fail
  refine (object_any none (some ⟨w.heap.size, 0, none⟩) 0 0 (n0 + 1) (n0 + 1) (ss ++ [x]) w6 (by have := HN0.out; simp; omega) (by unfold maxLen; omega) hS6).mono ?_
  rintro e w7 ⟨rfl, hb7⟩
  have e7 : lastOr (ss ++ [x]) = x := by simp [lastOr]
  rw [e7]
  clear e7
  go_wp2_with fail
  go_ret
  exact ⟨rfl, hbw6.trans (hb7.mono hbw6.size)⟩

end Go.Proofs.Ybulkehok
