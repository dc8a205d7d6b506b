/-
  The law, walked from its head to its end.
-/
import Derived.Test.YbulkehoyGreatFmtTail31
namespace Go.Proofs.YbulkehoyGreatFmt
set_option linter.unusedVariables false
open Go.RowKit Go.Extern.Stop Go.Stop Go.Extern

/-- The ops that came in: three bytes each. -/
def Ops (w : World) (a : Option Addr) (no : Nat) : Prop :=
  ∀ i, i < no → ∃ b off x y z, a = some ⟨b, off, none⟩ ∧ w.cell? ⟨b, off + i * 3, none⟩ = some (.int .u8 x) ∧ w.cell? ⟨b, off + i * 3 + 1, none⟩ = some (.int .u8 y) ∧ w.cell? ⟨b, off + i * 3 + 2, none⟩ = some (.int .u8 z) ∧ 0 ≤ x ∧ x ≤ 255 ∧ 0 ≤ y ∧ y ≤ 255 ∧ 0 ≤ z ∧ z ≤ 255

set_option maxRecDepth 100000 in
set_option maxHeartbeats 4000000 in
theorem law_main (F : Interp) (ids length starts kind : Int) (ao : Option Addr) (no co : Nat) (via to' frm mto decided : Int) (ae : Option Addr) (ne ce : Nat) (es : List (Bool × List Int)) (w : World) (hF : F.answers w.tape)
    (i0 : 0 ≤ ids) (i1 : ids ≤ 255) (l0 : 0 ≤ length) (l1 : length ≤ 255) (s0 : 0 ≤ starts) (s1 : starts ≤ 255)
    (v0 : -9223372036854775808 ≤ via) (v1 : via ≤ 9223372036854775807) (t0 : -9223372036854775808 ≤ to') (t1 : to' ≤ 9223372036854775807)
    (h1 : no ≤ 1048576) (h2 : ne ≤ 1048576) (hops : Ops w ao no) (hes : es.length = ne) (hents : Ents w w.heap.size ae es) (hnil : ae = none → ne = 0) (hreach : ∀ i, i < ne → (entAt es i).2.length ≤ 140737488351232) (hz : ∀ i, i < ne → (entAt es i).1 = true → (entAt es i).2 = []) :
    Calls Ybaz.prog 3 #[.int .u8 ids, .int .u8 length, .int .u8 starts, .slice ao no co, .int .i64 via, .int .i64 to', .int .u8 kind, .int .i64 frm, .int .i64 mto, .int .i64 decided, .slice ae ne ce] w (Fin0 w) := by
  have h1' : decide ((1048576 : Int) < (no : Int)) = false := decide_eq_false (by omega)
  have h2' : decide ((1048576 : Int) < (ne : Int)) = false := decide_eq_false (by omega)
  go_enter Ybaz.func3, Ybaz.ntmps3
  go_wp2
  go_loop [23, 60] (fun t i => ∃ (k : Nat) (q : Int), k ≤ ne ∧ i = .int .i64 k ∧ t = .int .i64 q ∧ 0 ≤ q ∧ q ≤ 1048576 ∧ ∀ i, i < k → (entAt es i).2.length ≤ 1048576) (fun _ i => ne - (intOf i).toNat)
  case atStart => exact ⟨0, 0, Nat.zero_le _, rfl, rfl, by omega, by omega, fun i hi => by omega⟩
  case round =>
    obtain ⟨k, q, hk, rfl, rfl, hq0, hq1, hlen⟩ := hrel
    by_cases hlt : k < ne
    · have hlt' : (k : Int) < (ne : Int) := by omega
      rcases hents with h' | ⟨b, off, rfl, hc⟩
      · subst h'; simp at hes; omega
      obtain ⟨v, hcell, p, cp, rfl, hp, hB⟩ := hc k (by omega)
      have hr := hreach k hlt
      clear hc hB hp hz hops hreach
      generalize hL : (entAt es k).2.length = L at hcell hr
      have HL : Hid ((entAt es k).2.length = L) := hL
      clear hL
      by_cases hbig : 1048576 < q + L
      · go_wp2
        go_ret
        exact ⟨rfl, Below.refl _ _⟩
      · go_wp2
        go_round
        case rel => exact ⟨k + 1, q + L, by omega, by go_num, rfl, by omega, by omega, fun i hi => by
          by_cases e : i = k
          · subst e; rw [HL.out]; omega
          · exact hlen i (by omega)⟩
        case measure => simp [intOf]; omega
    · have hlen' : ∀ i, i < ne → (entAt es i).2.length ≤ 1048576 := fun i hi => hlen i (by omega)
      clear hlen hreach
      have hk' : decide ((k : Int) < (ne : Int)) = false := decide_eq_false (by omega)
      go_upto_region 14 with fail
      obtain ⟨n, en, hn1, hn8⟩ : ∃ n : Nat, (1 + ids % 8 : Int) = (n : Int) ∧ 1 ≤ n ∧ n ≤ 8 := ⟨(1 + ids % 8).toNat, by omega, by omega, by omega⟩
      rw [en]
      obtain ⟨l, el, hl⟩ : ∃ l : Nat, (length % ((n : Int) + 1)) = (l : Int) ∧ l ≤ n := by
        have h1 := Int.emod_nonneg length (show ((n : Int) + 1) ≠ 0 by omega)
        have h2 := Int.emod_lt_of_pos length (show 0 < ((n : Int) + 1) by omega)
        exact ⟨(length % ((n : Int) + 1)).toNat, by omega, by omega⟩
      rw [el]
      obtain ⟨s, es', hs⟩ : ∃ s : Nat, (starts % ((n : Int) + 1)) = (s : Int) ∧ s ≤ n := by
        have h1 := Int.emod_nonneg starts (show ((n : Int) + 1) ≠ 0 by omega)
        have h2 := Int.emod_lt_of_pos starts (show 0 < ((n : Int) + 1) by omega)
        exact ⟨(starts % ((n : Int) + 1)).toNat, by omega, by omega⟩
      rw [es']
      clear en el es' i0 i1 l0 l1 s0 s1
      go_wp2_with fail
      refine (newNetwork_any n s w hn8 hs).mono ?_
      rintro e w1 ⟨N, D, S, C, R, st1, rfl, hLay, hNet1, hst1, hb1⟩
      go_upto_region 16 with fail
      go_loopw [90] (fun i wr => ∃ k : Nat, k ≤ no ∧ i = .int .i64 k ∧ Below w.heap.size w wr ∧ ∃ dn st cr, NetAt wr n N D S C R dn st cr ∧ st 0 = false) (fun i _ => no - (intOf i).toNat)
      case atStart => exact ⟨0, Nat.zero_le _, rfl, hb1, _, _, _, hNet1, hst1⟩
      case round =>
        clear hNet1 hst1
        obtain ⟨k2, hk2, rfl, hb2, dn, st, cr, hNet, hst0⟩ := hrel
        by_cases hlt2 : k2 < no
        · have hlt2' : (k2 : Int) < (no : Int) := by omega
          obtain ⟨ob, oo, x, y, z, rfl, cx, cy, cz, x0, x1, y0, y1, z0, z1⟩ := hops k2 hlt2
          have hob : ob < w.heap.size := World.block_lt_of_cell? w _ cx
          have cx' : wr.cell? ⟨ob, oo + k2 * 3, none⟩ = _ := (hb2.cell (by exact hob)).trans cx
          have cy' : wr.cell? ⟨ob, oo + k2 * 3 + 1, none⟩ = _ := (hb2.cell (by exact hob)).trans cy
          have cz' : wr.cell? ⟨ob, oo + k2 * 3 + 2, none⟩ = _ := (hb2.cell (by exact hob)).trans cz
          clear cx cy cz hops hents hz hlen'
          obtain ⟨ya, hya, hya1⟩ : ∃ a : Nat, y % (n : Int) = (a : Int) ∧ 1 + a ≤ n := by
            have h1 := Int.emod_nonneg y (show (n : Int) ≠ 0 by omega)
            have h2 := Int.emod_lt_of_pos y (show 0 < (n : Int) by omega)
            exact ⟨(y % (n : Int)).toNat, by omega, by omega⟩
          obtain ⟨zb, hzb, hzb1⟩ : ∃ a : Nat, z % (n : Int) = (a : Int) ∧ 1 + a ≤ n := by
            have h1 := Int.emod_nonneg z (show (n : Int) ≠ 0 by omega)
            have h2 := Int.emod_lt_of_pos z (show 0 < (n : Int) by omega)
            exact ⟨(z % (n : Int)).toNat, by omega, by omega⟩
          have hya2 : (1 : Int) + (ya : Int) < (n : Int) + 1 := by omega
          have hzb2 : (1 : Int) + (zb : Int) < (n : Int) + 1 := by omega
          go_upto_region 20 with fail
          have hA : NetAt (wr.alloc (.cells #[.int .u8 x, .int .u8 y, .int .u8 z] 28)) n N D S C R dn st cr := hNet.below (below_one _ _)
          have hbA : Below w.heap.size w (wr.alloc (.cells #[.int .u8 x, .int .u8 y, .int .u8 z] 28)) := hb2.alloc hb2.size _
          have cop : (wr.alloc (.cells #[.int .u8 x, .int .u8 y, .int .u8 z] 28)).cell? ⟨wr.heap.size, 0, none⟩ = some (.int .u8 x) := cellAtNew _ _ _ 0 rfl rfl
          clear cx' cy' cz' hNet hb2
          generalize hwA : wr.alloc (.cells #[.int .u8 x, .int .u8 y, .int .u8 z] 28) = wA at hA hbA cop ⊢
          clear hwA
          have hop : x % 4 = 0 ∨ x % 4 = 1 ∨ x % 4 = 2 ∨ x % 4 = 3 := by omega
          have c0 := hA.c0
          have c3 := hA.c3
          have c4 := hA.c4
          rcases hop with hx | hx | hx | hx
          · have cD := hA.down (1 + ya) hya1
            have cR := (hA.rows (1 + ya) hya1).cell (i := 1 + zb) (by omega)
            have zR := (hA.rows (1 + ya) hya1).free (i := 1 + zb) (by omega)
            have hA2 := hA.setDown hLay hya1 hzb1 true
            have d0 := hA2.c0
            have dD := hA2.down (1 + zb) hzb1
            have dR := (hA2.rows (1 + zb) hzb1).cell (i := 1 + ya) (by omega)
            have yR := (hA2.rows (1 + zb) hzb1).free (i := 1 + ya) (by omega)
            have hA3 := hA2.setDown hLay hzb1 hya1 true
            have hbA2 : Below w.heap.size w (wA.setCell ⟨R (1 + ya), 1 + zb, none⟩ (.bool true)) := hbA.setCell (by have := hLay.bD; have := hLay.dN; have := hLay.nR (1 + ya) hya1; simp; omega) _
            have hbA3 : Below w.heap.size w ((wA.setCell ⟨R (1 + ya), 1 + zb, none⟩ (.bool true)).setCell ⟨R (1 + zb), 1 + ya, none⟩ (.bool true)) := hbA2.setCell (by have := hLay.bD; have := hLay.dN; have := hLay.nR (1 + zb) hzb1; simp; omega) _
            generalize dn (1 + ya) (1 + zb) = old at cR
            generalize (if 1 + zb = 1 + ya ∧ 1 + ya = 1 + zb then true else dn (1 + zb) (1 + ya)) = old2 at dR
            clear hA hbA hA2 hbA2 c3 c4
            go_wp2
            go_roundw
            case rel => exact ⟨k2 + 1, by omega, by go_num, hbA3, _, _, _, hA3, hst0⟩
            case measure => simp [intOf]; omega
          · have cC := hA.crR.cell (i := 1 + ya) (by omega)
            have zC := hA.crR.free (i := 1 + ya) (by omega)
            have hA2 := hA.setCr hLay (a := 1 + ya) hya1 true
            have hbA2 : Below w.heap.size w (wA.setCell ⟨C, 1 + ya, none⟩ (.bool true)) := hbA.setCell (by have := hLay.bD; have := hLay.dN; have := hLay.nR 0 (by omega); have := hLay.rS 0 (by omega); have := hLay.sC; simp; omega) _
            generalize cr (1 + ya) = old at cC
            clear hA hbA
            go_wp2
            go_roundw
            case rel => exact ⟨k2 + 1, by omega, by go_num, hbA2, _, _, _, hA2, hst0⟩
            case measure => simp [intOf]; omega
          · have cC := hA.stR.cell (i := 1 + ya) (by omega)
            have zC := hA.stR.free (i := 1 + ya) (by omega)
            have hA2 := hA.setSt hLay (a := 1 + ya) hya1 true
            have hbA2 : Below w.heap.size w (wA.setCell ⟨S, 1 + ya, none⟩ (.bool true)) := hbA.setCell (by have := hLay.bD; have := hLay.dN; have := hLay.nR 0 (by omega); have := hLay.rS 0 (by omega); simp; omega) _
            generalize st (1 + ya) = old at cC
            clear hA hbA
            go_wp2
            go_roundw
            case rel => exact ⟨k2 + 1, by omega, by go_num, hbA2, _, _, _, hA2, by rw [if_neg (by omega)]; exact hst0⟩
            case measure => simp [intOf]; omega
          · have cD := hA.down (1 + ya) hya1
            have cR := (hA.rows (1 + ya) hya1).cell (i := 1 + zb) (by omega)
            have zR := (hA.rows (1 + ya) hya1).free (i := 1 + zb) (by omega)
            have hA2 := hA.setDown hLay hya1 hzb1 false
            have d0 := hA2.c0
            have dD := hA2.down (1 + zb) hzb1
            have dR := (hA2.rows (1 + zb) hzb1).cell (i := 1 + ya) (by omega)
            have yR := (hA2.rows (1 + zb) hzb1).free (i := 1 + ya) (by omega)
            have hA3 := hA2.setDown hLay hzb1 hya1 false
            have hbA2 : Below w.heap.size w (wA.setCell ⟨R (1 + ya), 1 + zb, none⟩ (.bool false)) := hbA.setCell (by have := hLay.bD; have := hLay.dN; have := hLay.nR (1 + ya) hya1; simp; omega) _
            have hbA3 : Below w.heap.size w ((wA.setCell ⟨R (1 + ya), 1 + zb, none⟩ (.bool false)).setCell ⟨R (1 + zb), 1 + ya, none⟩ (.bool false)) := hbA2.setCell (by have := hLay.bD; have := hLay.dN; have := hLay.nR (1 + zb) hzb1; simp; omega) _
            generalize dn (1 + ya) (1 + zb) = old at cR
            generalize (if 1 + zb = 1 + ya ∧ 1 + ya = 1 + zb then false else dn (1 + zb) (1 + ya)) = old2 at dR
            clear hA hbA hA2 hbA2 c3 c4
            go_wp2
            go_roundw
            case rel => exact ⟨k2 + 1, by omega, by go_num, hbA3, _, _, _, hA3, hst0⟩
            case measure => simp [intOf]; omega
        · clear hops
          go_upto_region 31 with fail
          refine tail31 F kind via to' frm mto decided ae ne ce n l N D S C R dn st cr es w wr _ ?h1 _ _ _ _ _ _ _ _ _ _ _ _ _ _ _ _ _ _ _ _ _ _ _ _ _ _ _ _ _ _ _ _ _ _ _ _ _ _ _ _ _ _ _ _ _ _ _ _ _ _ _ _ _ _ _ _ _ _ _ _ _ _ _ _ _ _ _ _ _ _ _ _ _ _ _ _ _ _ _ _ _ _ _ _ _ _ _ _ _ _ _ _ _ _ _ _ _ _ _ _ _ _ _ _ _ _ _ _ _ _ _ _ _ _ _ _ _ _ _ _ _ _ _ _ _ _ _ _ _ _ _ _ _ _ _ _ _ _ _ _ _ _ _ _ _ _ _ _ _ _ _ _ _ _ _ _ _ _ _ _ _ _ _ _ _ _ _ _ _ _ _ _ _ _ _ _ _ _ _ _ _ _ _ _ _ _ _ _ _ _ _ _ _ _ _ _ _ _ _ _ _ _ _ _ _ _ _ _ _ _ _ _ _ _ _ _ _ _ _ _ _ _ _ _ _ _ _ _ _ _ _ _ _ _ _ _ _ _ _ _ _ _ _ _ _ _ _ _ _ _ _ _ _ _ _ _ _ _ _ _ _ _ _ _ _ _ _ _ _ _ _ _ _ _ _ _ _ _ _ _ _ _ _ _ _ _ _ _ _ _ _ _ _ _ _ _ _ _ _ _ _ _ _ _ _ _ _ _ _ _ _ _ _ _ _ _ _ _ _ _ _ _ _ _ _ _ _ _ _ _ _ _ _ _ _ _ _ _ _ _ _ _ _ _ _ _ _ _ _ _ _ _ _ _ _ _ _ _ _ _ _ _ _ _ _ _ _ _ _ _ _ _ _ _ _ _ _ _ _ _ _ _ _ _ _ _ _ _ _ _ _ _ _ _ _ _ _ _ _ _ _ _ _ hF v0 v1 t0 t1 hn1 hn8 hl hLay hNet hst0 hb2 h2 hes hents hnil hlen' hz
          case h1 => assumption

set_option maxRecDepth 100000 in
set_option maxHeartbeats 1000000 in
/-- Too many ops: true at once. -/
theorem law_ops (ids length starts kind : Int) (ao : Option Addr) (no co : Nat) (via to' frm mto decided : Int) (ae : Option Addr) (ne ce : Nat) (w : World) (h1 : 1048576 < no) :
    Calls Ybaz.prog 3 #[.int .u8 ids, .int .u8 length, .int .u8 starts, .slice ao no co, .int .i64 via, .int .i64 to', .int .u8 kind, .int .i64 frm, .int .i64 mto, .int .i64 decided, .slice ae ne ce] w (Fin0 w) := by
  have h1' : decide ((1048576 : Int) < (no : Int)) = true := decide_eq_true (by omega)
  go_enter Ybaz.func3, Ybaz.ntmps3
  go_wp2
  go_ret
  exact ⟨rfl, Below.refl _ _⟩

set_option maxRecDepth 100000 in
set_option maxHeartbeats 1000000 in
/-- Too many entries: true at once. -/
theorem law_ents (ids length starts kind : Int) (ao : Option Addr) (no co : Nat) (via to' frm mto decided : Int) (ae : Option Addr) (ne ce : Nat) (w : World) (h1 : no ≤ 1048576) (h2 : 1048576 < ne) :
    Calls Ybaz.prog 3 #[.int .u8 ids, .int .u8 length, .int .u8 starts, .slice ao no co, .int .i64 via, .int .i64 to', .int .u8 kind, .int .i64 frm, .int .i64 mto, .int .i64 decided, .slice ae ne ce] w (Fin0 w) := by
  have h1' : decide ((1048576 : Int) < (no : Int)) = false := decide_eq_false (by omega)
  have h2' : decide ((1048576 : Int) < (ne : Int)) = true := decide_eq_true (by omega)
  go_enter Ybaz.func3, Ybaz.ntmps3
  go_wp2
  go_ret
  exact ⟨rfl, Below.refl _ _⟩

end Go.Proofs.YbulkehoyGreatFmt
