/-
  The law's walk.
-/
import Derived.Test.YbulkehrcNext
namespace Go.Proofs.Ybulkehrc
set_option linter.unusedVariables false
open Go.RowKit

theorem Yba.info25 : (Yba.prog.info? 25).map (fun i => (i.zero, i.size, i.bytes)) = some (some (.int .u8 0), 1, 1) := by kernel_rfl
theorem Yba.size25 : (Yba.prog.info? 25).map (·.size) = some 1 := by kernel_rfl

set_option maxHeartbeats 400000 in
theorem law_long (a : Option Addr) (m c : Nat) (a1 : Int) (w : World) (h : 1048576 < m) :
    Calls Yba.prog 3 #[.slice a m c, .int .i64 a1] w fun e w' => e = .returned (.bool true) ∧ Below w.heap.size w w' := by
  have h' : decide ((1048576 : Int) < (m : Int)) = true := decide_eq_true (by omega)
  go_enter Yba.func3, Yba.ntmps3
  go_wp2
  go_ret
  exact ⟨rfl, Below.refl _ _⟩

theorem rem_nat (a1 : Int) (k : Nat) : ∃ r : Nat, r ≤ k ∧ (IntKind.u64.wrap a1).tmod ((k : Int) + 1) = (r : Int) := by
  have h0 : 0 ≤ IntKind.u64.wrap a1 := by rw [IntKind.wrap_u64]; omega
  have h1 : (IntKind.u64.wrap a1).tmod ((k : Int) + 1) = IntKind.u64.wrap a1 % ((k : Int) + 1) := Int.tmod_eq_emod_of_nonneg h0
  have h2 := Int.emod_nonneg (IntKind.u64.wrap a1) (b := (k : Int) + 1) (by omega)
  have h3 := Int.emod_lt_of_pos (IntKind.u64.wrap a1) (b := (k : Int) + 1) (by omega)
  exact ⟨(IntKind.u64.wrap a1 % ((k : Int) + 1)).toNat, by omega, by rw [h1]; omega⟩

set_option maxRecDepth 100000 in
set_option maxHeartbeats 1000000 in
theorem law_short (a : Option Addr) (m c : Nat) (z : Nat → Int) (a1 : Int) (w : World) (hm : m ≤ 1048576) (hz : ∀ i, i < m → 0 ≤ z i ∧ z i ≤ 255) (a10 : -9223372036854775808 ≤ a1) (a11 : a1 ≤ 9223372036854775807) (hsrc : Src w a m z) :
    Calls Yba.prog 3 #[.slice a m c, .int .i64 a1] w fun e w' => e = .returned (.bool true) ∧ Below w.heap.size w w' := by
  have h' : decide ((1048576 : Int) < (m : Int)) = false := decide_eq_false (by omega)
  obtain ⟨i0, hi, hz0, hz1, hz2⟩ := info_parts Yba.info25
  go_enter Yba.func3, Yba.ntmps3
  go_wp2_with (first | (at_make; refine wpList_make_full _ rfl _ _ 24 rfl w.heap.size 25 i0 (.int .u8 0) 1 Yba.underlying24 hi hz0 hz1 _ _ _ _ (m + 1) rfl rfl rfl rfl (by rw [hz2]; omega) (by unfold maxLen; omega) (Nat.le_refl _) ?_))
  intro w1 hown hgrow
  have hb1 : Below w.heap.size w w1 := (Below.refl _ _).grown hgrow (Nat.le_refl _) (by intro k hk; cases hk)
  have hrow : Row w1 w.heap.size (m + 1) (fun j => .int .u8 (fill z 0 j)) := (Row.made hown).congr fun i hi => by simp [fill]
  clear hown hgrow
  go_wp2_with fail
  go_loopw [7] (fun i wr => ∃ k : Nat, k ≤ m ∧ i = .int .i64 k ∧ Below w.heap.size w wr ∧ Row wr w.heap.size (m + 1) (fun j => .int .u8 (fill z k j))) (fun i _ => m - (intOf i).toNat)
  case atStart => exact ⟨0, Nat.zero_le _, rfl, hb1, hrow⟩
  case round =>
    clear hrow hb1
    obtain ⟨k, hk, rfl, hbel, hrow⟩ := hrel
    have hsrc1 := hsrc.below hbel
    by_cases hlt : k < m
    · have hlt' : decide ((k : Int) < (m : Int)) = true := decide_eq_true (by omega)
      rcases hsrc1 with h0 | ⟨b, off, rfl, hc⟩
      · omega
      have hcell := hc k hlt
      have c1 := hrow.cell (i := k) (by omega)
      have hfz := hrow.free (i := k) (by omega)
      have hn := fill_step hrow (k := k) (by omega)
      clear hc hsrc hz hrow
      generalize z k = x at hcell hn
      go_wp2_with fail
      go_roundw
      case rel => exact ⟨k + 1, by omega, by go_num, hbel.setCell (Nat.le_refl _) _, hn⟩
      case measure => simp [intOf]; omega
    · have hlt' : decide ((k : Int) < (m : Int)) = false := decide_eq_false (by omega)
      obtain rfl : k = m := by omega
      have c1 := hrow.cell (i := k) (by omega)
      have hfz := hrow.free (i := k) (by omega)
      have hn := fill_last hrow
      have hb2 : Below w.heap.size w (wr.setCell ⟨w.heap.size, k, none⟩ (.int .u8 1)) := hbel.setCell (Nat.le_refl _) _
      clear hrow hsrc hsrc1
      obtain ⟨r, hr, hq⟩ := rem_nat a1 k
      have e1 : wrap64 (r : Int) = (r : Int) := by unfold wrap64; omega
      have e2 : wrap64 ((r : Int) - 1) = (r : Int) - 1 := by unfold wrap64; omega
      go_wp2_with fail
      generalize wr.setCell ⟨w.heap.size, k, none⟩ (.int .u8 1) = w2 at hn hb2 ⊢
      have hT : tab z k k = 1 := tab_last z k
      generalize tab z k = t at hn hT
      clear c1 hfz hbel hz hlt hlt' hk e1 e2 hq a10 a11
      have HT : Hid (t k = 1) := hT
      clear hT
      go_loop [9, 10] (fun v i => ∃ (q x : Nat), r ≤ q ∧ q ≤ k + 1 ∧ i = .int .i64 ((q : Int) - 1) ∧ v = .int .i64 x ∧ First t k q x) (fun _ i => (intOf i + 1).toNat)
      case atStart => exact ⟨k + 1, k, by omega, Nat.le_refl _, by go_num, rfl, First.start HT.out⟩
      case round =>
        obtain ⟨q, x, hq1, hq2, rfl, rfl, hF⟩ := hrel
        by_cases hlt : r < q
        · obtain ⟨y, rfl⟩ : ∃ y, q = y + 1 := ⟨q - 1, by omega⟩
          have hlt' : decide ((r : Int) - 1 < (y : Int)) = true := decide_eq_true (by omega)
          have e0 : ((y + 1 : Nat) : Int) - 1 = (y : Int) := by omega
          have hc := hn.cell (i := y) (by omega)
          have hc' : w2.cell? ⟨w.heap.size, y, none⟩ = some (.int .u8 (t y)) := hc
          clear hc
          rw [e0]
          clear e0
          by_cases ht : t y = 1
          · have F1 := First.hit (m := k) ht (by omega)
            rw [ht] at hc'
            clear ht hF
            go_wp2_with fail
            go_round
            case rel => exact ⟨y, y, by omega, by omega, by go_num, rfl, F1⟩
            case measure => simp [intOf]
          · have F1 := hF.miss ht
            have ht' : (t y == 1) = false := by simpa using ht
            clear ht hF
            generalize t y = u at hc' ht'
            go_wp2_with fail
            go_round
            case rel => exact ⟨y, x, by omega, by omega, by go_num, rfl, F1⟩
            case measure => simp [intOf]
        · obtain rfl : q = r := by omega
          have hlt' : decide ((q : Int) - 1 < (q : Int) - 1) = false := decide_eq_false (by omega)
          clear HT hq1 hlt
          go_wp2_with (first | (at_make; refine wpList_make_full _ rfl _ _ 24 rfl w2.heap.size 25 i0 (.int .u8 0) 1 Yba.underlying24 hi hz0 hz1 _ _ _ _ (k + 1) rfl rfl rfl rfl (by rw [hz2]; omega) (by unfold maxLen; omega) (Nat.le_refl _) ?_))
          intro w3 hown hgrow
          have hb3 : Below w2.heap.size w2 w3 := (Below.refl _ _).grown hgrow (Nat.le_refl _) (by intro k hk; cases hk)
          have hblk := ownsRow_block hown
          have hn3 := hn.below hb3
          have hsr := hn3.src
          clear hown hgrow
          go_wp2_with (refine wpList_copy_splice rfl (.tmp 63) (.tmp 64) 24 24 rfl 25 Yba.underlying24 Yba.size25 _ _ _ _ _ _ rfl rfl w2.heap.size 0 _ 25 hblk (cellsOf t (k + 1)) (by simp [cellsOf_length]) (fun hp => ⟨rfl, ⟨_, rfl, hsr⟩⟩) (by simp [cellsOf_length, size_madeCells]) (cellsOf_oneCell _ _) w2.heap.size w2 hb3 (Nat.le_refl _) ?_)
          intro w4 hg4 hb4
          rw [splice_all _ _ (by simp [cellsOf_length, size_madeCells])] at hg4
          have hcp : Row w4 w2.heap.size (k + 1) (fun j => .int .u8 (t j)) := Row.of_cells hg4.out
          have hn4 := hn.below hb4
          have hbw : Below w.heap.size w w4 := hb2.trans (hb4.mono hb2.size)
          clear hg4 hsr hblk hn3 hb3 hb4 hn hi hz0 hz1 hz2 hlt'
          have hnext := next_any w.heap.size k (k + 1) q x t w4 hm hr hn4 hF
          go_wp2_with (go_at_call 4; refine hnext.mono ?_; rintro e w' ⟨rfl, rfl⟩)
          clear hnext hF hq2 hr
          generalize w2.heap.size = G2 at hcp ⊢
          clear hb2
          generalize hG : w.heap.size = G at hn4 hbw ⊢
          go_loopw [13] (fun i wr => ∃ y : Nat, y ≤ k + 1 ∧ i = .int .i64 y ∧ Row wr G2 (k + 1) (fun j => .int .u8 (t j)) ∧ Row wr G (k + 1) (fun j => .int .u8 (t j)) ∧ Below G w wr) (fun i _ => k + 1 - (intOf i).toNat)
          case atStart => exact ⟨0, Nat.zero_le _, rfl, hcp, hn4, hbw⟩
          case round =>
            clear hcp hn4 hbw
            obtain ⟨y, hy, rfl, hcp, hn4, hbw⟩ := hrel
            by_cases hlt : y < k + 1
            · have hlt' : decide ((y : Int) < (k : Int) + 1) = true := decide_eq_true (by omega)
              have c1 := hcp.cell hlt
              have c2 := hn4.cell hlt
              have c1' : wr.cell? ⟨G2, y, none⟩ = some (.int .u8 (t y)) := c1
              have c2' : wr.cell? ⟨G, y, none⟩ = some (.int .u8 (t y)) := c2
              clear c1 c2
              generalize t y = u at c1' c2'
              go_wp2_with fail
              go_region
              all_goals go_wp2_with fail
              all_goals
                go_roundw
                case rel => exact ⟨y + 1, by omega, by go_num, hcp.drew, hn4.drew, hbw.drew⟩
                case measure => simp [intOf]; omega
            · have hlt' : decide ((y : Int) < (k : Int) + 1) = false := decide_eq_false (by omega)
              clear hcp hn4
              go_wp2_with fail
              go_ret
              exact ⟨rfl, by rw [hG]; exact hbw⟩
end Go.Proofs.Ybulkehrc
