/-
  newNetwork.
-/
import Derived.Test.YbulkehoyGreatFmtMem
import Derived.Deep.QuietTactic
import Derived.BigQuiet
import Derived.Deep.DeepCutAuto
namespace Go.Proofs.YbulkehoyGreatFmt
set_option linter.unusedVariables false
open Go.RowKit

/-- Where a network's blocks lie. -/
structure Lay (B n N D S C : Nat) (R : Nat → Nat) : Prop where
  bD : B ≤ D
  dN : D < N
  nR : ∀ a, a ≤ n → N < R a
  rR : ∀ a b, a < b → b ≤ n → R a < R b
  rS : ∀ a, a ≤ n → R a < S
  sC : S < C

/-- What a network holds. -/
structure NetAt (w : World) (n N D S C : Nat) (R : Nat → Nat) (dn : Nat → Nat → Bool) (st cr : Nat → Bool) : Prop where
  c0 : w.cell? ⟨N, 0, none⟩ = some (.slice (some ⟨D, 0, none⟩) (n + 1) (n + 1))
  c3 : w.cell? ⟨N, 3, none⟩ = some (.slice (some ⟨S, 0, none⟩) (n + 1) (n + 1))
  c4 : w.cell? ⟨N, 4, none⟩ = some (.slice (some ⟨C, 0, none⟩) (n + 1) (n + 1))
  down : ∀ a, a ≤ n → w.cell? ⟨D, a, none⟩ = some (.slice (some ⟨R a, 0, none⟩) (n + 1) (n + 1))
  rows : ∀ a, a ≤ n → Row w (R a) (n + 1) (fun b => .bool (dn a b))
  stR : Row w S (n + 1) (fun a => .bool (st a))
  crR : Row w C (n + 1) (fun a => .bool (cr a))

theorem Row.newMade (w : World) (z : Value) (m : Nat) (e : TypeId) : Row (w.alloc (.cells (madeCells #[z] m) e)) w.heap.size m (fun _ => z) := by
  have hb : (w.alloc (.cells (madeCells #[z] m) e)).heap[w.heap.size]? = some (.cells (List.replicate m z).toArray e (0, 0)) := by
    rw [heap_alloc_new, ← toList_madeCells_one]
  have h1 := Row.of_block hb z
  rw [List.length_replicate] at h1
  exact h1.congr fun i hi => by simp [hi]

theorem Ybaz.info4 : (Ybaz.prog.info? 4).map (fun i => (i.zero, i.size, i.bytes)) = some (some (.bool false), 1, 1) := by kernel_rfl
theorem Ybaz.info29 : (Ybaz.prog.info? 29).map (fun i => (i.zero, i.size, i.bytes)) = some (some (.slice none 0 0), 1, 24) := by kernel_rfl
theorem Ybaz.info77 : (Ybaz.prog.info? 77).map (fun i => (i.zero, i.size, i.bytes)) = some (some (.agg #[.int .i64 0, .int .i64 0]), 2, 16) := by kernel_rfl

theorem make_of {t e : TypeId} {z : Value} {b : Nat} (ht : Ybaz.prog.underlying t = some (.slice e)) (hi : (Ybaz.prog.info? e).map (fun i => (i.zero, i.size, i.bytes)) = some (some z, 1, b)) (hz : z.cells = #[z]) (hb : b ≤ 64) (m : Nat) (hm : m ≤ 1048577) (x : Int) (hx : x = (m : Int)) (w : World) :
    (Instr.makeSlice t (.int .i64 x) (.int .i64 x)).run Ybaz.prog w = .ok (.slice (some ⟨w.heap.size, 0, none⟩) m m) (w.alloc (.cells (madeCells #[z] m) e)) := by
  subst hx
  obtain ⟨i, h1, h2, h3, h4⟩ := info_parts hi
  have hbm : (i.bytes : Int) * (m : Int) ≤ 64 * 1048577 := by
    rw [h4]
    exact Int.mul_le_mul (by omega) (by omega) (by omega) (by omega)
  have := run_make (P := Ybaz.prog) w t e i z ht h1 h2 .i64 .i64 m m (by omega) (by omega) (by omega) (by omega)
  rw [this, h3, hz]
  simp

/-- Behind k rounds of the first loop. -/
def Inv1 (w0 : World) (n k : Nat) (wr : World) : Prop :=
  ∃ (R : Nat → Nat) (fD : Nat → Value), Row wr (w0.heap.size + 1) 6 (fun j => if j = 0 then .slice (some ⟨w0.heap.size, 0, none⟩) (n + 1) (n + 1) else .slice none 0 0) ∧ Row wr w0.heap.size (n + 1) fD ∧
    (∀ j, j < k → fD j = .slice (some ⟨R j, 0, none⟩) (n + 1) (n + 1) ∧ Row wr (R j) (n + 1) (fun _ => .bool false) ∧ w0.heap.size + 1 < R j) ∧ (∀ i j, i < j → j < k → R i < R j) ∧ w0.heap.size + 1 < wr.heap.size ∧ Below w0.heap.size w0 wr

theorem Inv1.step {w0 : World} {n k : Nat} {wr w' : World} (h : Inv1 w0 n k wr) (hk : k < n + 1)
    (hw : w' = (wr.alloc (.cells (madeCells #[.bool false] (n + 1)) 4)).setCell ⟨w0.heap.size, k, none⟩ (.slice (some ⟨wr.heap.size, 0, none⟩) (n + 1) (n + 1))) : Inv1 w0 n (k + 1) w' := by
  obtain ⟨R, fD, hN, hD, hR, hI, hs, hb⟩ := h
  subst hw
  have hRlt : ∀ j, j < k → R j < wr.heap.size := fun j hj => (hR j hj).2.1.lt (by omega)
  refine ⟨fun j => if j = k then wr.heap.size else R j, upd fD k _, (hN.alloc _).other (by simp) _, (hD.alloc _).set hk _, fun j hj => ?_, fun i j hij hj => ?_, ?_, ?_⟩
  · by_cases e : j = k
    · subst e
      simp only [if_true]
      refine ⟨upd_same _ _ _, (Row.newMade wr _ _ _).other (by simp; omega) _, by omega⟩
    · simp only [if_neg e]
      obtain ⟨h1, h2, h3⟩ := hR j (by omega)
      exact ⟨by rw [upd_other _ _ e]; exact h1, (h2.alloc _).other (by simp; omega) _, h3⟩
  · by_cases e : j = k
    · subst e
      simp only [if_true]
      rw [if_neg (by omega)]
      exact hRlt i (by omega)
    · simp only [if_neg e]
      rw [if_neg (by omega)]
      exact hI i j hij (by omega)
  · simp; omega
  · exact (hb.alloc (by omega) _).setCell (Nat.le_refl _) _

theorem Inv1.drew {w0 : World} {n k : Nat} {wr : World} (h : Inv1 w0 n k wr) : Inv1 w0 n k wr.drew := by
  obtain ⟨R, fD, hN, hD, hR, hI, hs, hb⟩ := h
  exact ⟨R, fD, hN, hD, hR, hI, hs, hb.drew⟩

theorem Inv1.start (w : World) (n : Nat) : Inv1 w n 0 ((w.alloc (.cells (madeCells #[.slice none 0 0] (n + 1)) 29)).alloc (.cells #[.slice (some ⟨w.heap.size, 0, none⟩) (n + 1) (n + 1), .slice none 0 0, .slice none 0 0, .slice none 0 0, .slice none 0 0, .slice none 0 0] 33)) := by
  refine ⟨fun _ => 0, fun _ => .slice none 0 0, ?_, (Row.newMade w _ _ _).alloc _, fun j hj => by omega, fun i j _ hj => by omega, by simp, ((Below.refl _ _).alloc (Nat.le_refl _) _).alloc (by simp) _⟩
  have hb := heap_alloc_new (w.alloc (.cells (madeCells #[.slice none 0 0] (n + 1)) 29)) (.cells #[.slice (some ⟨w.heap.size, 0, none⟩) (n + 1) (n + 1), .slice none 0 0, .slice none 0 0, .slice none 0 0, .slice none 0 0, .slice none 0 0] 33)
  have hs : (w.alloc (.cells (madeCells #[.slice none 0 0] (n + 1)) 29)).heap.size = w.heap.size + 1 := by simp
  rw [hs] at hb
  have h1 := Row.of_block (R := [.slice (some ⟨w.heap.size, 0, none⟩) (n + 1) (n + 1), .slice none 0 0, .slice none 0 0, .slice none 0 0, .slice none 0 0, .slice none 0 0]) hb (.slice none 0 0)
  refine h1.congr fun i hi => ?_
  match i, hi with
  | 0, _ => rfl
  | 1, _ => rfl
  | 2, _ => rfl
  | 3, _ => rfl
  | 4, _ => rfl
  | 5, _ => rfl

/-- The fields of the network while its links are gathered. -/
def fN (dv v : Value) : Nat → Value := fun j => if j = 0 then dv else if j = 1 then v else .slice none 0 0
/-- While the links are gathered: at most m of them so far. -/
def Inv2 (w1 : World) (N : Nat) (dv : Value) (m : Nat) (wr : World) : Prop :=
  w1.grownBy wr (some N) ∧ ∃ v k xs, k ≤ m ∧ wr.ownsRow w1.heap.size 77 2 v k xs ∧ Row wr N 6 (fN dv v)

theorem grownBy_trans {a b c : World} {N : Nat} {row : Option Nat} (h : a.grownBy b (some N)) (k : b.grownBy c row) (hr : ∀ q, row = some q → q = N ∨ a.heap.size ≤ q) : a.grownBy c (some N) :=
  ⟨k.os.trans h.os, k.tape.trans h.tape, k.output.trans h.output, Nat.le_trans h.size k.size, fun i hi hne => by
    rw [k.block i (Nat.lt_of_lt_of_le hi h.size) (fun e => (hr i e.symm).elim (fun h1 => hne (by rw [h1])) (fun h1 => by omega))]
    exact h.block i hi hne⟩
theorem grownBy_set (w : World) (N j : Nat) (v : Value) : w.grownBy (w.setCell ⟨N, j, none⟩ v) (some N) :=
  ⟨rfl, rfl, rfl, by simp, fun k hk hne => Below.heap_setCell w ⟨N, j, none⟩ v k (fun e => hne (by rw [e]))⟩

theorem Inv2.mono {w1 : World} {N m m' : Nat} {dv : Value} {wr : World} (h : Inv2 w1 N dv m wr) (hm : m ≤ m') : Inv2 w1 N dv m' wr := by
  obtain ⟨hg, v, k, xs, hk, r⟩ := h
  exact ⟨hg, v, k, xs, Nat.le_trans hk hm, r⟩

theorem Inv2.step {w1 : World} {N m k' : Nat} {dv v v' : Value} {wr w2 : World} {o : Obj} {xs' : List Value} (hN : N < w1.heap.size) (hg : w1.grownBy wr (some N)) (hrow : Row wr N 6 (fN dv v)) (hvb : ∀ q, v.ownBlock = some q → w1.heap.size ≤ q)
    (hk : k' ≤ m) (hown : w2.ownsRow w1.heap.size 77 2 v' k' xs') (hgrow : (wr.alloc o).grownBy w2 v.ownBlock) : Inv2 w1 N dv m (w2.setCell ⟨N, 1, none⟩ v') := by
  have hNr : N < wr.heap.size := Nat.lt_of_lt_of_le hN hg.size
  have hg2 : w1.grownBy w2 (some N) := grownBy_trans (grownBy_trans hg (World.grownBy_alloc wr o none) (by intro q hq; cases hq)) hgrow (fun q hq => .inr (hvb q hq))
  refine ⟨grownBy_trans hg2 (grownBy_set w2 N 1 v') (fun q hq => .inl (by simpa using hq.symm)), v', k', xs', hk, ownsRow_setCell_below hown (by exact hN) _, ?_⟩
  have h2 : Row w2 N 6 (fN dv v) := (hrow.alloc o).block (hgrow.block N (by simp; omega) (fun e => by have := hvb N e.symm; omega))
  refine (h2.set (i := 1) (by omega) v').congr fun i hi => ?_
  unfold upd fN
  by_cases e : i = 1
  · subst e; simp
  · simp [e]

theorem ownsRow_shape {w : World} {base e size n : Nat} {v : Value} {xs : List Value} (h : w.ownsRow base e size v n xs) : ∃ a c, v = .slice a n c := by
  rcases h.2 with ⟨rfl, rfl⟩ | ⟨g, cap, cur, rfl, _⟩
  · exact ⟨none, 0, rfl⟩
  · exact ⟨_, _, rfl⟩

/-- The network's fields, its table of rows and the rows, none of them down. -/
def Base (w : World) (n : Nat) (R : Nat → Nat) (x : World) (f : Nat → Value) : Prop :=
  Row x (w.heap.size + 1) 6 f ∧ (∀ a, a ≤ n → x.cell? ⟨w.heap.size, a, none⟩ = some (.slice (some ⟨R a, 0, none⟩) (n + 1) (n + 1))) ∧ (∀ a, a ≤ n → Row x (R a) (n + 1) (fun _ => .bool false)) ∧ Below w.heap.size w x ∧ w.heap.size + 1 < x.heap.size

theorem Base.alloc {w : World} {n : Nat} {R : Nat → Nat} {x : World} {f : Nat → Value} (h : Base w n R x f) (o : Obj) : Base w n R (x.alloc o) f := by
  obtain ⟨h1, h2, h3, h4, h5⟩ := h
  exact ⟨h1.alloc o, fun a ha => Lib.cell?_alloc_some o (h2 a ha), fun a ha => (h3 a ha).alloc o, h4.alloc (by omega) o, by simp; omega⟩
theorem Base.setN {w : World} {n : Nat} {R : Nat → Nat} {x : World} {f : Nat → Value} (h : Base w n R x f) (hR : ∀ a, a ≤ n → w.heap.size + 1 < R a) {j : Nat} (hj : j < 6) (v : Value) : Base w n R (x.setCell ⟨w.heap.size + 1, j, none⟩ v) (upd f j v) := by
  obtain ⟨h1, h2, h3, h4, h5⟩ := h
  refine ⟨h1.set hj v, fun a ha => ?_, fun a ha => (h3 a ha).other (by have := hR a ha; simp; omega) _, h4.setCell (by simp) _, by simpa using h5⟩
  rw [World.cell?_setCell_other _ _ _ _ (fun e => by have := congrArg Addr.block e; simp at this)]
  exact h2 a ha
theorem Base.setS {w : World} {n : Nat} {R : Nat → Nat} {x : World} {f : Nat → Value} (h : Base w n R x f) {S : Nat} (hR : ∀ a, a ≤ n → R a < S) (hS : w.heap.size + 1 < S) (j : Nat) (v : Value) : Base w n R (x.setCell ⟨S, j, none⟩ v) f := by
  obtain ⟨h1, h2, h3, h4, h5⟩ := h
  refine ⟨h1.other (by simp; omega) _, fun a ha => ?_, fun a ha => (h3 a ha).other (by have := hR a ha; simp; omega) _, h4.setCell (by simp; omega) _, by simpa using h5⟩
  rw [World.cell?_setCell_other _ _ _ _ (fun e => by have := congrArg Addr.block e; simp at this; omega)]
  exact h2 a ha

set_option maxRecDepth 100000 in
set_option maxHeartbeats 1000000 in
theorem newNetwork_any (n s : Nat) (w : World) (hn : n ≤ 8) (hs : s ≤ n) :
    Calls Ybaz.prog 4 #[.int .i64 n, .int .i64 s] w fun e w' => ∃ N D S C R st, e = .returned (.pointer (some ⟨N, 0, none⟩)) ∧ Lay w.heap.size n N D S C R ∧ NetAt w' n N D S C R (fun _ _ => false) st (fun _ => false) ∧ st 0 = false ∧ Below w.heap.size w w' := by
  have mk30 := fun w => make_of Ybaz.underlying30 Ybaz.info29 rfl (by omega) (n + 1) (by omega) ((n : Int) + 1) (by omega) w
  have mk29 := fun w => make_of Ybaz.underlying29 Ybaz.info4 rfl (by omega) (n + 1) (by omega) ((n : Int) + 1) (by omega) w
  go_enter Ybaz.func4, Ybaz.ntmps4
  go_wp2
  go_loopw [20] (fun i wr => ∃ k : Nat, k ≤ n + 1 ∧ i = .int .i64 k ∧ Inv1 w n k wr) (fun i _ => n + 1 - (intOf i).toNat)
  case atStart => exact ⟨0, Nat.zero_le _, rfl, Inv1.start w n⟩
  case round =>
    obtain ⟨k, hk, rfl, hI⟩ := hrel
    by_cases hlt : k < n + 1
    · have hlt' : (k : Int) < (n : Int) + 1 := by omega
      have hI' := hI
      obtain ⟨R, fD, hN, hD, hR, _, hs', _⟩ := hI'
      have c0 := hN.cell (i := 0) (by omega)
      have cD := hD.cell hlt
      have zD := hD.free hlt
      simp only [if_true] at c0
      have c0' : ∀ o, (wr.alloc o).cell? ⟨w.heap.size + 1, 0, none⟩ = _ := fun o => Lib.cell?_alloc_some o c0
      have cD' : ∀ o, (wr.alloc o).cell? ⟨w.heap.size, k, none⟩ = _ := fun o => Lib.cell?_alloc_some o cD
      have zD' : ∀ o, (wr.alloc o).frozen? ⟨w.heap.size, k, none⟩ = false := fun o => (hD.alloc o).free hlt
      generalize fD k = old at cD cD'
      clear hN hD hR
      go_wp2
      go_region
      all_goals go_wp2
      all_goals
        go_roundw
        case rel => exact ⟨k + 1, by omega, by go_num, (hI.step hlt rfl).drew⟩
        case measure => simp [intOf]; omega
    · obtain rfl : k = n + 1 := by omega
      obtain ⟨R, fD, hN, hD, hR, hInc, hs', hbel⟩ := hI
      have hI2 : Inv2 wr (w.heap.size + 1) (.slice (some ⟨w.heap.size, 0, none⟩) (n + 1) (n + 1)) 0 wr :=
        ⟨World.grownBy.refl _ _, .slice none 0 0, 0, [], Nat.le_refl _, World.ownsRow_nil _ _ _ _, hN.congr fun i hi => by unfold fN; split <;> simp⟩
      have HFACT : Hid (Row wr (w.heap.size + 1) 6 (fun j => if j = 0 then .slice (some ⟨w.heap.size, 0, none⟩) (n + 1) (n + 1) else .slice none 0 0) ∧ Row wr w.heap.size (n + 1) fD ∧ (∀ j, j < n + 1 → fD j = .slice (some ⟨R j, 0, none⟩) (n + 1) (n + 1) ∧ Row wr (R j) (n + 1) (fun _ => .bool false) ∧ w.heap.size + 1 < R j) ∧ (∀ i j, i < j → j < n + 1 → R i < R j)) := ⟨hN, hD, hR, hInc⟩
      clear hN hD hR hInc hlt hk
      generalize hw1 : wr = w1 at *
      clear hw1
      rw [show ((n + 1 : Nat) : Int) = (n : Int) + 1 from by omega]
      go_wp2
      go_loopw [7] (fun i wr => ∃ k : Nat, k ≤ n ∧ i = .int .i64 (k + 1) ∧ Inv2 w1 (w.heap.size + 1) (.slice (some ⟨w.heap.size, 0, none⟩) (n + 1) (n + 1)) (16 * k) wr) (fun i _ => n + 1 - (intOf i).toNat)
      case atStart => exact ⟨0, Nat.zero_le _, rfl, hI2⟩
      case round =>
        obtain ⟨k, hk, rfl, hJ⟩ := hrel
        by_cases hlt : k < n
        · have hd : decide ((k : Int) + 1 ≤ (n : Int)) = true := by simp; omega
          go_wp2
          go_loopw [8] (fun i wr => ∃ q : Nat, q ≤ n + 1 ∧ i = .int .i64 q ∧ Inv2 w1 (w.heap.size + 1) (.slice (some ⟨w.heap.size, 0, none⟩) (n + 1) (n + 1)) (16 * k + q) wr) (fun i _ => n + 1 - (intOf i).toNat)
          case atStart => exact ⟨k + 2, by omega, by go_num, hJ.mono (by omega)⟩
          case round =>
            obtain ⟨q, hq, rfl, hJ2⟩ := hrel
            by_cases hql : q < n + 1
            · have hd2 : decide ((q : Int) ≤ (n : Int)) = true := by simp; omega
              obtain ⟨hg, v, m, xs, hm, hown, hrow⟩ := hJ2
              have c1 := hrow.cell (i := 1) (by omega)
              rw [show fN (.slice (some ⟨w.heap.size, 0, none⟩) (n + 1) (n + 1)) v 1 = v from rfl] at c1
              have hNw : w.heap.size + 1 < w1.heap.size := hs'
              have hNr : w.heap.size + 1 < wr.heap.size := Nat.lt_of_lt_of_le hs' hg.size
              have z1 := hrow.free (i := 1) (by omega)
              obtain ⟨i7, hi7, h70, h71, h72⟩ := info_parts Ybaz.info77
              have hsz1 : w1.heap.size ≤ wr.heap.size := hg.size
              have hvb : ∀ p, v.ownBlock = some p → w1.heap.size ≤ p := fun p hp => (hown.lt p hp).1
              have hnews : ∀ (o1 : Array Value), True := fun _ => trivial
              clear hnews hJ
              go_wp2_with (at_builtin; refine wpList_append_own _ rfl (.tmp 49) (.tmp 53) 31 rfl w1.heap.size 77 i7 (.agg #[.int .i64 0, .int .i64 0]) 2 16 Ybaz.underlying31 hi7 h70 h71 h72 rfl (by decide) _ _ _ rfl (hown.alloc _) ⟨wr.heap.size, 0, none⟩ 1 1 [.int .i64 (k + 1), .int .i64 q] rfl rfl ?d1 ?d2 ?d3 ?d4 ?d5 ?_)
              case d1 =>
                intro j u hj
                match j, hj with
                | 0, hj => simp at hj; subst hj; exact cellAtNew _ _ _ 0 rfl rfl
                | 1, hj => simp at hj; subst hj; exact cellAtNew _ _ _ 1 rfl rfl
              case d2 =>
                intro u hu
                simp at hu
                rcases hu with rfl | rfl <;> rfl
              case d3 => unfold maxLen; omega
              case d4 => omega
              case d5 => simp; omega
              intro v2 w2 hown2 hgrow2 hnil2
              have hst := Inv2.step (m := 16 * k + (q + 1)) hs' hg hrow hvb (by omega) hown2 hgrow2
              have c2 : w2.cell? ⟨w.heap.size + 1, 1, none⟩ = some v := by
                rw [World.cell?_of_block (w := wr.alloc _) (a := ⟨w.heap.size + 1, 1, none⟩) (hgrow2.block (w.heap.size + 1) (by simp; omega) (fun e => by have := hvb (w.heap.size + 1) e.symm; omega))]
                exact Lib.cell?_alloc_some _ c1
              have z2 : w2.frozen? ⟨w.heap.size + 1, 1, none⟩ = false := by
                rw [World.frozen?_of_block (w := wr.alloc _) (a := ⟨w.heap.size + 1, 1, none⟩) (hgrow2.block (w.heap.size + 1) (by simp; omega) (fun e => by have := hvb (w.heap.size + 1) e.symm; omega))]
                exact (hrow.alloc _).free (i := 1) (by omega)
              obtain ⟨g2, x2, hv2⟩ := ownsRow_shape hown2
              clear hown2 hgrow2 hnil2 hvb hown hrow hg c1 z1 hi7 h70 h71 h72
              subst hv2
              go_wp2
              go_roundw
              case rel => first | exact ⟨q + 1, by omega, by go_num, hst⟩ | ((repeat apply Exists.intro); exact ⟨⟨q + 1, by omega, by go_num, hst⟩, rfl⟩)
              case measure => simp [intOf]; omega
            · go_wp2
              go_roundw
              case rel => exact ⟨k + 1, by omega, by go_num, hJ2.mono (by omega)⟩
              case measure => simp [intOf]; omega
        · obtain ⟨hg, v, m, xs, hm, hown, hrow⟩ := hJ
          obtain ⟨hN1, hD1, hR1, hInc⟩ := HFACT.out
          have hRN : ∀ a, a ≤ n → w.heap.size + 1 < R a := fun a ha => (hR1 a (by omega)).2.2
          have hRw : ∀ a, a ≤ n → R a < w1.heap.size := fun a ha => (hR1 a (by omega)).2.1.lt (by omega)
          have hB0 : Base w n R wr (fN (.slice (some ⟨w.heap.size, 0, none⟩) (n + 1) (n + 1)) v) := by
            refine ⟨hrow, fun a ha => ?_, fun a ha => (hR1 a (by omega)).2.1.block (hg.block _ (hRw a ha) (fun e => by have := hRN a ha; simp at e; omega)), ?_, Nat.lt_of_lt_of_le hs' hg.size⟩
            · have h1 := hD1.block (hg.block w.heap.size (by omega) (fun e => by simp at e))
              rw [← (hR1 a (by omega)).1]
              exact h1.cell (by omega)
            · exact hbel.grown hg (by omega) (fun q hq => by simp at hq; omega)
          have hw1r : w1.heap.size ≤ wr.heap.size := hg.size
          obtain ⟨av, cv, hv⟩ := ownsRow_shape hown
          have mkm := fun w => make_of Ybaz.underlying29 Ybaz.info4 rfl (by omega) m (by omega) (m : Int) rfl w
          clear hown hrow hg hN1 hD1 hR1 HFACT hI2 hbel
          subst hv
          have c1 := hB0.1.cell (i := 1) (by omega)
          rw [show fN (.slice (some ⟨w.heap.size, 0, none⟩) (n + 1) (n + 1)) (.slice av m cv) 1 = .slice av m cv from rfl] at c1
          have B1 : ∀ o, Base w n R (wr.alloc o) _ := fun o => hB0.alloc o
          have z2 : ∀ o, (wr.alloc o).frozen? ⟨w.heap.size + 1, 2, none⟩ = false := fun o => (B1 o).1.free (i := 2) (by omega)
          have c2 : ∀ o, (wr.alloc o).cell? ⟨w.heap.size + 1, 2, none⟩ = _ := fun o => (B1 o).1.cell (i := 2) (by omega)
          clear B1
          go_upto_region 15 with fail
          have hB2 := (hB0.alloc (.cells (madeCells #[.bool false] m) 4)).setN hRN (j := 2) (by omega) (.slice (some ⟨wr.heap.size, 0, none⟩) m m)
          have hsz2 : w1.heap.size ≤ ((wr.alloc (.cells (madeCells #[.bool false] m) 4)).setCell ⟨w.heap.size + 1, 2, none⟩ (.slice (some ⟨wr.heap.size, 0, none⟩) m m)).heap.size := by simp; omega
          generalize hw2 : (wr.alloc (.cells (madeCells #[.bool false] m) 4)).setCell ⟨w.heap.size + 1, 2, none⟩ (.slice (some ⟨wr.heap.size, 0, none⟩) m m) = w2 at hB2 hsz2 ⊢
          have hf20 : Hid (upd (fN (.slice (some ⟨w.heap.size, 0, none⟩) (n + 1) (n + 1)) (.slice av m cv)) 2 (.slice (some ⟨wr.heap.size, 0, none⟩) m m) 0 = .slice (some ⟨w.heap.size, 0, none⟩) (n + 1) (n + 1)) := rfl
          generalize upd (fN (.slice (some ⟨w.heap.size, 0, none⟩) (n + 1) (n + 1)) (.slice av m cv)) 2 (.slice (some ⟨wr.heap.size, 0, none⟩) m m) = f2 at hB2 hf20
          clear hw2 c2 z2 c1 mkm hB0
          have z3 : ∀ o, (w2.alloc o).frozen? ⟨w.heap.size + 1, 3, none⟩ = false := fun o => (hB2.alloc o).1.free (i := 3) (by omega)
          have c3 : ∀ o, (w2.alloc o).cell? ⟨w.heap.size + 1, 3, none⟩ = _ := fun o => (hB2.alloc o).1.cell (i := 3) (by omega)
          go_upto_region 16 with fail
          have hB3 := (hB2.alloc (.cells (madeCells #[.bool false] (n + 1)) 4)).setN hRN (j := 3) (by omega) (.slice (some ⟨w2.heap.size, 0, none⟩) (n + 1) (n + 1))
          have hS3 : Row ((w2.alloc (.cells (madeCells #[.bool false] (n + 1)) 4)).setCell ⟨w.heap.size + 1, 3, none⟩ (.slice (some ⟨w2.heap.size, 0, none⟩) (n + 1) (n + 1))) w2.heap.size (n + 1) (fun a => .bool ((fun _ => false) a)) := (Row.newMade w2 _ _ _).other (by simp; omega) _
          have hRS : ∀ a, a ≤ n → R a < w2.heap.size := fun a ha => Nat.lt_of_lt_of_le (hRw a ha) hsz2
          have hNS : w.heap.size + 1 < w2.heap.size := Nat.lt_of_lt_of_le hs' hsz2
          generalize hw3 : (w2.alloc (.cells (madeCells #[.bool false] (n + 1)) 4)).setCell ⟨w.heap.size + 1, 3, none⟩ (.slice (some ⟨w2.heap.size, 0, none⟩) (n + 1) (n + 1)) = w3 at hB3 hS3 ⊢
          have hf30 : Hid (upd f2 3 (.slice (some ⟨w2.heap.size, 0, none⟩) (n + 1) (n + 1)) 0 = .slice (some ⟨w.heap.size, 0, none⟩) (n + 1) (n + 1) ∧ upd f2 3 (.slice (some ⟨w2.heap.size, 0, none⟩) (n + 1) (n + 1)) 3 = .slice (some ⟨w2.heap.size, 0, none⟩) (n + 1) (n + 1)) := ⟨hf20.out, upd_same _ _ _⟩
          generalize upd f2 3 (.slice (some ⟨w2.heap.size, 0, none⟩) (n + 1) (n + 1)) = f3 at hB3 hf30
          clear hw3 c3 z3 hB2 hf20 hsz2
          generalize w2.heap.size = S at hS3 hRS hNS hf30
          go_wp2
          go_loopw [9] (fun i x => ∃ k : Nat, k ≤ s ∧ i = .int .i64 (k + 1) ∧ Base w n R x f3 ∧ ∃ st : Nat → Bool, Row x S (n + 1) (fun a => .bool (st a)) ∧ st 0 = false) (fun i _ => s + 1 - (intOf i).toNat)
          case atStart => exact ⟨0, Nat.zero_le _, rfl, hB3, _, hS3, rfl⟩
          case round =>
            clear hB3 hS3
            obtain ⟨k, hk, rfl, hB4, st, hS4, hst0⟩ := hrel
            have c3 := hB4.1.cell (i := 3) (by omega)
            rw [hf30.out.2] at c3
            by_cases hls : k < s
            · have cS := hS4.cell (i := k + 1) (by omega)
              have zS := hS4.free (i := k + 1) (by omega)
              have hS5 : Row (wr.setCell ⟨S, k + 1, none⟩ (.bool true)) S (n + 1) (fun a => .bool ((fun a => if a = k + 1 then true else st a) a)) := (hS4.set (i := k + 1) (by omega) (.bool true)).congr fun a ha => by
                unfold upd; by_cases e : a = k + 1 <;> simp [e]
              have hB5 := hB4.setS hRS hNS (k + 1) (.bool true)
              have hd3 : decide ((k : Int) + 1 ≤ (s : Int)) = true := by simp; omega
              generalize st (k + 1) = old at cS
              clear hS4 hB4
              go_wp2
              go_roundw
              case rel => exact ⟨k + 1, by omega, by go_num, hB5, _, hS5, by simp [hst0]⟩
              case measure => simp [intOf]; omega
            · clear c3
              have z4 : ∀ o, (wr.alloc o).frozen? ⟨w.heap.size + 1, 4, none⟩ = false := fun o => (hB4.alloc o).1.free (i := 4) (by omega)
              have c4 : ∀ o, (wr.alloc o).cell? ⟨w.heap.size + 1, 4, none⟩ = _ := fun o => (hB4.alloc o).1.cell (i := 4) (by omega)
              have hSw : S < wr.heap.size := hS4.lt (by omega)
              go_upto_region 21 with fail
              have hB5 := (hB4.alloc (.cells (madeCells #[.bool false] (n + 1)) 4)).setN hRN (j := 4) (by omega) (.slice (some ⟨wr.heap.size, 0, none⟩) (n + 1) (n + 1))
              have hS5 : Row ((wr.alloc (.cells (madeCells #[.bool false] (n + 1)) 4)).setCell ⟨w.heap.size + 1, 4, none⟩ (.slice (some ⟨wr.heap.size, 0, none⟩) (n + 1) (n + 1))) S (n + 1) (fun a => .bool (st a)) := (hS4.alloc _).other (by simp; omega) _
              have hC5 : Row ((wr.alloc (.cells (madeCells #[.bool false] (n + 1)) 4)).setCell ⟨w.heap.size + 1, 4, none⟩ (.slice (some ⟨wr.heap.size, 0, none⟩) (n + 1) (n + 1))) wr.heap.size (n + 1) (fun a => .bool ((fun _ => false) a)) := (Row.newMade wr _ _ _).other (by simp; omega) _
              generalize hw5 : (wr.alloc (.cells (madeCells #[.bool false] (n + 1)) 4)).setCell ⟨w.heap.size + 1, 4, none⟩ (.slice (some ⟨wr.heap.size, 0, none⟩) (n + 1) (n + 1)) = w5 at hB5 hS5 hC5 ⊢
              have hf50 : Hid (upd f3 4 (.slice (some ⟨wr.heap.size, 0, none⟩) (n + 1) (n + 1)) 0 = .slice (some ⟨w.heap.size, 0, none⟩) (n + 1) (n + 1) ∧ upd f3 4 (.slice (some ⟨wr.heap.size, 0, none⟩) (n + 1) (n + 1)) 3 = .slice (some ⟨S, 0, none⟩) (n + 1) (n + 1) ∧ upd f3 4 (.slice (some ⟨wr.heap.size, 0, none⟩) (n + 1) (n + 1)) 4 = .slice (some ⟨wr.heap.size, 0, none⟩) (n + 1) (n + 1)) := ⟨hf30.out.1, hf30.out.2, upd_same _ _ _⟩
              generalize upd f3 4 (.slice (some ⟨wr.heap.size, 0, none⟩) (n + 1) (n + 1)) = f5 at hB5 hf50
              clear hw5 z4 c4 hB4 hS4
              generalize wr.heap.size = C at hC5 hf50 hSw
              have z5 : ∀ o, (w5.alloc o).frozen? ⟨w.heap.size + 1, 5, none⟩ = false := fun o => (hB5.alloc o).1.free (i := 5) (by omega)
              have c5 : ∀ o, (w5.alloc o).cell? ⟨w.heap.size + 1, 5, none⟩ = _ := fun o => (hB5.alloc o).1.cell (i := 5) (by omega)
              go_upto_region 22 with fail
              have hB6 := (hB5.alloc (.cells (madeCells #[.bool false] (n + 1)) 4)).setN hRN (j := 5) (by omega) (.slice (some ⟨w5.heap.size, 0, none⟩) (n + 1) (n + 1))
              have hS6 : Row ((w5.alloc (.cells (madeCells #[.bool false] (n + 1)) 4)).setCell ⟨w.heap.size + 1, 5, none⟩ (.slice (some ⟨w5.heap.size, 0, none⟩) (n + 1) (n + 1))) S (n + 1) (fun a => .bool (st a)) := (hS5.alloc _).other (by simp; omega) _
              have hC6 : Row ((w5.alloc (.cells (madeCells #[.bool false] (n + 1)) 4)).setCell ⟨w.heap.size + 1, 5, none⟩ (.slice (some ⟨w5.heap.size, 0, none⟩) (n + 1) (n + 1))) C (n + 1) (fun a => .bool ((fun _ => false) a)) := (hC5.alloc _).other (by simp; omega) _
              generalize hw6 : (w5.alloc (.cells (madeCells #[.bool false] (n + 1)) 4)).setCell ⟨w.heap.size + 1, 5, none⟩ (.slice (some ⟨w5.heap.size, 0, none⟩) (n + 1) (n + 1)) = w6 at hB6 hS6 hC6 ⊢
              clear hw6 z5 c5 hB5 hS5 hC5
              obtain ⟨g1, g2, g3, g4, g5⟩ := hB6
              have hLay : Lay w.heap.size n (w.heap.size + 1) w.heap.size S C R := ⟨Nat.le_refl _, by omega, hRN, fun a b hab hb => hInc a b hab (by omega), hRS, hSw⟩
              have hNet : NetAt w6 n (w.heap.size + 1) w.heap.size S C R (fun _ _ => false) st (fun _ => false) :=
                ⟨by rw [g1.cell (i := 0) (by omega)]; exact congrArg some hf50.out.1, by rw [g1.cell (i := 3) (by omega)]; exact congrArg some hf50.out.2.1, by rw [g1.cell (i := 4) (by omega)]; exact congrArg some hf50.out.2.2, g2, g3, hS6, hC6⟩
              clear g1 g2 g3 hS6 hC6
              go_wp2
              go_ret
              exact ⟨_, _, _, _, _, _, rfl, hLay, hNet, hst0, g4⟩

end Go.Proofs.YbulkehoyGreatFmt
