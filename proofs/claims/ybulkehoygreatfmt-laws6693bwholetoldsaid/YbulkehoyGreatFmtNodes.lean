/-
  The nodes in memory.
-/
import Derived.Test.YbulkehoyGreatFmtNetSet
namespace Go.Proofs.YbulkehoyGreatFmt
set_option linter.unusedVariables false
open Go.RowKit

theorem cell_below {w w' : World} {a : Addr} {v : Value} (h : w.cell? a = some v) (hb : Below w.heap.size w w') : w'.cell? a = some v := by
  rw [hb.cell (by exact World.block_lt_of_cell? w a h)]; exact h

/-- One node: its replica's pointer, its state (nil). -/
def NodeIs (w : World) (G X : Nat) (r : Option Addr) : Prop := G < X ∧ w.cell? ⟨X, 0, none⟩ = some (.pointer r) ∧ w.cell? ⟨X, 15, none⟩ = some (.pointer none)
theorem NodeIs.below {w w' : World} {G X : Nat} {r : Option Addr} (h : NodeIs w G X r) (hb : Below w.heap.size w w') : NodeIs w' G X r := ⟨h.1, cell_below h.2.1 hb, cell_below h.2.2 hb⟩
theorem NodeIs.set {w : World} {G X : Nat} {r : Option Addr} (h : NodeIs w G X r) (j : Nat) (v : Value) : NodeIs (w.setCell ⟨G, j, none⟩ v) G X r :=
  ⟨h.1, cell_other h.2.1 (by have := h.1; simp; omega), cell_other h.2.2 (by have := h.1; simp; omega)⟩

/-- The row of nodes behind k rounds. -/
def nodeRow (k : Nat) (X : Nat → Nat) : Nat → Value := fun i => if i < k then .pointer (some ⟨X i, 0, none⟩) else .pointer none
/-- The target's replica is a zero one. -/
def ZeroAt (w : World) (G : Nat) (r : Option Addr) : Prop := ∃ Rp, G < Rp ∧ r = some ⟨Rp, 0, none⟩ ∧ w.cell? ⟨Rp, 0, none⟩ = some (.int .i64 0)
theorem ZeroAt.below {w w' : World} {G : Nat} {r : Option Addr} (h : ZeroAt w G r) (hb : Below w.heap.size w w') : ZeroAt w' G r := by
  obtain ⟨Rp, h1, h2, h3⟩ := h
  exact ⟨Rp, h1, h2, cell_below h3 hb⟩
theorem ZeroAt.set {w : World} {G : Nat} {r : Option Addr} (h : ZeroAt w G r) (j : Nat) (v : Value) : ZeroAt (w.setCell ⟨G, j, none⟩ v) G r := by
  obtain ⟨Rp, h1, h2, h3⟩ := h
  exact ⟨Rp, h1, h2, cell_other h3 (by simp; omega)⟩

def Inv3 (w : World) (G l k : Nat) (tg : Bool) (t : Nat) (X : Nat → Nat) (r : Nat → Option Addr) : Prop :=
  Row w G l (nodeRow k X) ∧ (∀ i, i < k → NodeIs w G (X i) (r i)) ∧ ∀ i, i < k → tg = true → i + 1 = t → ZeroAt w G (r i)

theorem Inv3.below {w w' : World} {G l k t : Nat} {tg : Bool} {X : Nat → Nat} {r : Nat → Option Addr} (h : Inv3 w G l k tg t X r) (hb : Below w.heap.size w w') : Inv3 w' G l k tg t X r :=
  ⟨h.1.below hb, fun i hi => (h.2.1 i hi).below hb, fun i hi h1 h2 => (h.2.2 i hi h1 h2).below hb⟩

theorem Inv3.step {w w' : World} {G l k t : Nat} {tg : Bool} {X : Nat → Nat} {r : Nat → Option Addr} {Xn : Nat} {rn : Option Addr} (h : Inv3 w G l k tg t X r) (hb : Below w.heap.size w w') (hk : k < l) (hn : NodeIs w' G Xn rn) (hz : tg = true → k + 1 = t → ZeroAt w' G rn) :
    Inv3 (w'.setCell ⟨G, k, none⟩ (.pointer (some ⟨Xn, 0, none⟩))) G l (k + 1) tg t (fun i => if i = k then Xn else X i) (fun i => if i = k then rn else r i) := by
  have h' := h.below hb
  refine ⟨(h'.1.set hk _).congr fun i hi => ?_, fun i hi => ?_, fun i hi h1 h2 => ?_⟩
  · unfold upd nodeRow
    by_cases e : i = k
    · subst e; simp
    · by_cases e2 : i < k
      · rw [if_neg e, if_pos e2, if_pos (by omega)]; simp [e]
      · rw [if_neg e, if_neg e2, if_neg (by omega)]
  · by_cases e : i = k
    · subst e; simp only [if_true]; exact hn.set _ _
    · simp only [if_neg e]; exact (h'.2.1 i (by omega)).set _ _
  · by_cases e : i = k
    · subst e; simp only [if_true]; exact (hz h1 h2).set _ _
    · simp only [if_neg e]; exact (h'.2.2 i (by omega) h1 h2).set _ _

/-- The nodes, all laid. -/
def NodesAt (w : World) (G l : Nat) (X : Nat → Nat) (r : Nat → Option Addr) : Prop :=
  Row w G l (fun i => .pointer (some ⟨X i, 0, none⟩)) ∧ ∀ i, i < l → NodeIs w G (X i) (r i)
theorem NodesAt.below {w w' : World} {G l : Nat} {X : Nat → Nat} {r : Nat → Option Addr} (h : NodesAt w G l X r) (hb : Below w.heap.size w w') : NodesAt w' G l X r :=
  ⟨h.1.below hb, fun i hi => (h.2 i hi).below hb⟩
theorem Inv3.all {w : World} {G l t : Nat} {tg : Bool} {X : Nat → Nat} {r : Nat → Option Addr} (h : Inv3 w G l l tg t X r) : NodesAt w G l X r :=
  ⟨h.1.congr fun i hi => by unfold nodeRow; rw [if_pos hi], h.2.1⟩

/-- What deliver will do: it hands the message to a zero replica, or it does nothing. -/
def Goes (w : World) (G n l v t : Nat) (r : Nat → Option Addr) (dn : Nat → Nat → Bool) (st cr : Nat → Bool) : Prop :=
  (∃ q, t = q + 1 ∧ q + 1 ≤ l ∧ dn v (q + 1) = false ∧ st (q + 1) = true ∧ cr (q + 1) = false ∧ ZeroAt w G (r q)) ∨ l < t ∨ (t ≤ l ∧ (!dn v t && (st t && !cr t)) = false)
theorem Goes.below {w w' : World} {G n l v t : Nat} {r : Nat → Option Addr} {dn : Nat → Nat → Bool} {st cr : Nat → Bool} (h : Goes w G n l v t r dn st cr) (hb : Below w.heap.size w w') : Goes w' G n l v t r dn st cr := by
  rcases h with ⟨q, h1, h2, h3, h4, h5, h6⟩ | h
  · exact .inl ⟨q, h1, h2, h3, h4, h5, h6.below hb⟩
  · exact .inr h

/-- The rows that hold the nodes' and the replicas' pointers behind k rounds. -/
def Inv4 (w : World) (BN BR l k : Nat) (X : Nat → Nat) (r : Nat → Option Addr) : Prop :=
  ∃ f1 f2, Row w BN l f1 ∧ Row w BR l f2 ∧ ∀ i, i < k → f1 i = .pointer (some ⟨X i, 0, none⟩) ∧ f2 i = .pointer (r i)
theorem Inv4.step {w : World} {BN BR l k : Nat} {X : Nat → Nat} {r : Nat → Option Addr} (h : Inv4 w BN BR l k X r) (hne : BN ≠ BR) (hk : k < l) :
    Inv4 ((w.setCell ⟨BN, k, none⟩ (.pointer (some ⟨X k, 0, none⟩))).setCell ⟨BR, k, none⟩ (.pointer (r k))) BN BR l (k + 1) X r := by
  obtain ⟨f1, f2, h1, h2, h3⟩ := h
  refine ⟨upd f1 k (.pointer (some ⟨X k, 0, none⟩)), upd f2 k (.pointer (r k)), (h1.set hk _).other (fun e => hne e.symm) _, ((h2.other (by exact hne) _).set hk _), fun i hi => ?_⟩
  by_cases e : i = k
  · subst e; exact ⟨upd_same _ _ _, upd_same _ _ _⟩
  · rw [upd_other _ _ e, upd_other _ _ e]; exact h3 i (by omega)

theorem Ybaz.info36 : (Ybaz.prog.info? 36).map (fun i => (i.zero, i.size, i.bytes)) = some (some (.pointer none), 1, 8) := by kernel_rfl
theorem Ybaz.info38 : (Ybaz.prog.info? 38).map (fun i => (i.zero, i.size, i.bytes)) = some (some (.pointer none), 1, 8) := by kernel_rfl
end Go.Proofs.YbulkehoyGreatFmt
