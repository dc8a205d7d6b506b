/-
  deliver.
-/
import Derived.Test.YbulkehoyGreatFmtStep2
import Derived.Test.YbulkehoyGreatFmtNetSet
namespace Go.Proofs.YbulkehoyGreatFmt
set_option linter.unusedVariables false
open Go.RowKit Go.Extern.Stop Go.Stop Go.Extern

theorem step_any (F : Interp) (Rp : Nat) (kind frm mto dec : Int) (ent : Option Addr) (ne ce : Nat) (w : World) (hF : F.answers w.tape) (h0 : w.cell? ⟨Rp, 0, none⟩ = some (.int .i64 0)) :
    Calls Ybaz.prog 12 #[.pointer (some ⟨Rp, 0, none⟩), .agg #[.int .u8 kind, .bool false, .bool false, .int .i64 frm, .int .i64 mto, .int .i64 0, .int .i64 0, .int .i64 0, .int .i64 0, .int .i64 0, .int .i64 0, .int .i64 0, .int .i64 0, .int .i64 0, .int .i64 dec, .int .i64 0, .int .i64 0, .slice ent ne ce]] w fun e w' => e = .returned (.tuple #[]) ∧ Below w.heap.size w w' := by
  by_cases h : mto = 0
  · subst h
    exact step_eq F Rp kind frm dec ent ne ce w hF h0
  · exact step_ne Rp kind frm mto dec ent ne ce w h0 h

set_option maxRecDepth 100000 in
set_option maxHeartbeats 1000000 in
theorem deliver_far (a : Option Addr) (l c N v t : Nat) (kind frm mto dec : Int) (ent : Option Addr) (ne ce : Nat) (w : World) (h : l < t) :
    Calls Ybaz.prog 7 #[.slice a l c, .pointer (some ⟨N, 0, none⟩), .int .i64 v, .int .i64 t, .agg #[.int .u8 kind, .bool false, .bool false, .int .i64 frm, .int .i64 mto, .int .i64 0, .int .i64 0, .int .i64 0, .int .i64 0, .int .i64 0, .int .i64 0, .int .i64 0, .int .i64 0, .int .i64 0, .int .i64 dec, .int .i64 0, .int .i64 0, .slice ent ne ce]] w fun e w' => e = .returned (.tuple #[]) ∧ Below w.heap.size w w' := by
  have hd : decide ((t : Int) ≤ (l : Int)) = false := decide_eq_false (by omega)
  go_enter Ybaz.func7, Ybaz.ntmps7
  go_wp2
  go_end0
  exact ⟨rfl, below_one _ _⟩

set_option maxRecDepth 100000 in
set_option maxHeartbeats 1000000 in
theorem deliver_no (a : Option Addr) (l c n N D S C v t : Nat) (R : Nat → Nat) (dn : Nat → Nat → Bool) (st cr : Nat → Bool) (kind frm mto dec : Int) (ent : Option Addr) (ne ce : Nat) (w : World) (hn : n ≤ 8) (hv : v ≤ n) (ht : t ≤ n) (h : t ≤ l)
    (hnet : NetAt w n N D S C R dn st cr) (hno : (!dn v t && (st t && !cr t)) = false) :
    Calls Ybaz.prog 7 #[.slice a l c, .pointer (some ⟨N, 0, none⟩), .int .i64 v, .int .i64 t, .agg #[.int .u8 kind, .bool false, .bool false, .int .i64 frm, .int .i64 mto, .int .i64 0, .int .i64 0, .int .i64 0, .int .i64 0, .int .i64 0, .int .i64 0, .int .i64 0, .int .i64 0, .int .i64 0, .int .i64 dec, .int .i64 0, .int .i64 0, .slice ent ne ce]] w fun e w' => e = .returned (.tuple #[]) ∧ Below w.heap.size w w' := by
  have hd : decide ((t : Int) ≤ (l : Int)) = true := decide_eq_true (by omega)
  have H1 : ∀ o, NetAt (w.alloc o) n N D S C R dn st cr := fun o => hnet.below (below_one _ _)
  have up := fun o => up_any N D (R v) v t (n + 1) (n + 1) (n + 1) (dn v t) (w.alloc o) (by omega) (by omega) (by omega) (H1 o).c0 ((H1 o).down v hv) (((H1 o).rows v hv).cell (i := t) (by omega))
  have run := fun o => running_any N S C t (n + 1) (n + 1) (n + 1) (st t) (cr t) (w.alloc o) (by omega) (by omega) (H1 o).c3 ((H1 o).stR.cell (i := t) (by omega)) (H1 o).c4 ((H1 o).crR.cell (i := t) (by omega))
  generalize dn v t = x at up hno
  generalize st t = y at run hno
  generalize cr t = z at run hno
  clear H1 hnet
  have U : Hid (∀ o, Calls Ybaz.prog 10 #[.pointer (some ⟨N, 0, none⟩), .int .i64 v, .int .i64 t] (w.alloc o) fun e w' => e = .returned (.bool !x) ∧ w' = w.alloc o) := up
  have V : Hid (∀ o, Calls Ybaz.prog 11 #[.pointer (some ⟨N, 0, none⟩), .int .i64 t] (w.alloc o) fun e w' => e = .returned (.bool (y && !z)) ∧ w' = w.alloc o) := run
  clear up run
  have hyz : x = false → (y && !z) = false := fun hx => by subst hx; simpa using hno
  generalize (y && !z) = r at V hyz
  cases x with
  | true =>
    go_enter Ybaz.func7, Ybaz.ntmps7
    go_wp2_with (first | (go_at_call 10; refine (U.out _).mono ?_; rintro e w' ⟨rfl, rfl⟩) | (go_at_call 11; refine (V.out _).mono ?_; rintro e w' ⟨rfl, rfl⟩))
    go_end0
    exact ⟨rfl, below_one _ _⟩
  | false =>
    obtain rfl := hyz rfl
    go_enter Ybaz.func7, Ybaz.ntmps7
    go_wp2_with (first | (go_at_call 10; refine (U.out _).mono ?_; rintro e w' ⟨rfl, rfl⟩) | (go_at_call 11; refine (V.out _).mono ?_; rintro e w' ⟨rfl, rfl⟩))
    go_end0
    exact ⟨rfl, below_one _ _⟩

set_option maxRecDepth 100000 in
set_option maxHeartbeats 1000000 in
theorem deliver_yes (F : Interp) (G l c n N D S C v t X Rp : Nat) (R : Nat → Nat) (dn : Nat → Nat → Bool) (st cr : Nat → Bool) (kind frm mto dec : Int) (ent : Option Addr) (ne ce : Nat) (w : World) (hF : F.answers w.tape) (hn : n ≤ 8) (hv : v ≤ n) (ht : t + 1 ≤ n) (h : t + 1 ≤ l) (hl : l ≤ 8)
    (hnet : NetAt w n N D S C R dn st cr) (h1 : dn v (t + 1) = false) (h2 : st (t + 1) = true) (h3 : cr (t + 1) = false)
    (hG : w.cell? ⟨G, t, none⟩ = some (.pointer (some ⟨X, 0, none⟩))) (hX : w.cell? ⟨X, 0, none⟩ = some (.pointer (some ⟨Rp, 0, none⟩))) (hR : w.cell? ⟨Rp, 0, none⟩ = some (.int .i64 0)) :
    Calls Ybaz.prog 7 #[.slice (some ⟨G, 0, none⟩) l c, .pointer (some ⟨N, 0, none⟩), .int .i64 v, .int .i64 (t + 1), .agg #[.int .u8 kind, .bool false, .bool false, .int .i64 frm, .int .i64 mto, .int .i64 0, .int .i64 0, .int .i64 0, .int .i64 0, .int .i64 0, .int .i64 0, .int .i64 0, .int .i64 0, .int .i64 0, .int .i64 dec, .int .i64 0, .int .i64 0, .slice ent ne ce]] w fun e w' => e = .returned (.tuple #[]) ∧ Below w.heap.size w w' := by
  have hd : decide ((t : Int) + 1 ≤ (l : Int)) = true := decide_eq_true (by omega)
  have htl : (t : Int) < (l : Int) := by omega
  have wt : IntKind.i64.wrap (t : Int) = (t : Int) := by rw [IntKind.wrap_i64]; omega
  have H1 : ∀ o, NetAt (w.alloc o) n N D S C R dn st cr := fun o => hnet.below (below_one _ _)
  have up := fun o => up_any N D (R v) v (t + 1) (n + 1) (n + 1) (n + 1) (dn v (t + 1)) (w.alloc o) (by omega) (by omega) (by omega) (H1 o).c0 ((H1 o).down v hv) (((H1 o).rows v hv).cell (i := t + 1) (by omega))
  have run := fun o => running_any N S C (t + 1) (n + 1) (n + 1) (n + 1) (st (t + 1)) (cr (t + 1)) (w.alloc o) (by omega) (by omega) (H1 o).c3 ((H1 o).stR.cell (i := t + 1) (by omega)) (H1 o).c4 ((H1 o).crR.cell (i := t + 1) (by omega))
  rw [h1] at up
  rw [h2, h3] at run
  rw [show ((t + 1 : Nat) : Int) = (t : Int) + 1 from by omega] at up run
  have U : Hid (∀ o, Calls Ybaz.prog 10 #[.pointer (some ⟨N, 0, none⟩), .int .i64 v, .int .i64 (t + 1)] (w.alloc o) fun e w' => e = .returned (.bool true) ∧ w' = w.alloc o) := up
  have V : Hid (∀ o, Calls Ybaz.prog 11 #[.pointer (some ⟨N, 0, none⟩), .int .i64 (t + 1)] (w.alloc o) fun e w' => e = .returned (.bool true) ∧ w' = w.alloc o) := run
  have hG1 : ∀ o, (w.alloc o).cell? ⟨G, t, none⟩ = some (.pointer (some ⟨X, 0, none⟩)) := fun o => Lib.cell?_alloc_some o hG
  have hX1 : ∀ o, (w.alloc o).cell? ⟨X, 0, none⟩ = some (.pointer (some ⟨Rp, 0, none⟩)) := fun o => Lib.cell?_alloc_some o hX
  have hR1 : ∀ o, (w.alloc o).cell? ⟨Rp, 0, none⟩ = some (.int .i64 0) := fun o => Lib.cell?_alloc_some o hR
  clear up run H1 hnet h1 h2 h3 hG hX hR
  go_enter Ybaz.func7, Ybaz.ntmps7
  go_wp2_with (first | (go_at_call 10; refine (U.out _).mono ?_; rintro e w' ⟨rfl, rfl⟩) | (go_at_call 11; refine (V.out _).mono ?_; rintro e w' ⟨rfl, rfl⟩))
  go_region_with (go_at_call 12; refine (step_any F Rp kind frm mto dec ent ne ce _ (by exact hF) (by exact hR1 _)).mono ?_; rintro e w' ⟨rfl, hb⟩)
  all_goals
    go_wp2
    go_end0
    exact ⟨rfl, Below.comp (below_new w 1 _) hb⟩

end Go.Proofs.YbulkehoyGreatFmt
