/-
  A network in memory behind a new block, and behind one store into it.
-/
import Derived.Test.YbulkehoyGreatFmtNet
namespace Go.Proofs.YbulkehoyGreatFmt
set_option linter.unusedVariables false
open Go.RowKit

theorem cell_other {w : World} {a b : Addr} {u v : Value} (h : w.cell? b = some v) (hne : a.block ≠ b.block) : (w.setCell a u).cell? b = some v := by
  rw [World.cell?_setCell_other _ _ _ _ (fun e => hne (congrArg Addr.block e))]
  exact h

theorem NetAt.setDown {w : World} {B n N D S C : Nat} {R : Nat → Nat} {dn : Nat → Nat → Bool} {st cr : Nat → Bool} (h : NetAt w n N D S C R dn st cr) (L : Lay B n N D S C R) {a b : Nat} (ha : a ≤ n) (hb : b ≤ n) (x : Bool) :
    NetAt (w.setCell ⟨R a, b, none⟩ (.bool x)) n N D S C R (fun i j => if i = a ∧ j = b then x else dn i j) st cr := by
  have k1 := L.nR a ha
  have k2 := L.dN
  have k3 := L.rS a ha
  have k4 := L.sC
  refine ⟨cell_other h.c0 (by simp; omega), cell_other h.c3 (by simp; omega), cell_other h.c4 (by simp; omega), fun i hi => cell_other (h.down i hi) (by simp; omega), fun i hi => ?_, h.stR.other (by simp; omega) _, h.crR.other (by simp; omega) _⟩
  by_cases e : i = a
  · subst e
    refine ((h.rows i hi).set (i := b) (by omega) (.bool x)).congr fun j hj => ?_
    unfold upd
    by_cases e : j = b <;> simp [e]
  · have hne : R a ≠ R i := by
      rcases Nat.lt_or_gt_of_ne e with h1 | h1
      · have := L.rR i a h1 ha; omega
      · have := L.rR a i h1 hi; omega
    refine ((h.rows i hi).other (by simpa using hne) _).congr fun j hj => ?_
    simp [e]

theorem NetAt.setSt {w : World} {B n N D S C : Nat} {R : Nat → Nat} {dn : Nat → Nat → Bool} {st cr : Nat → Bool} (h : NetAt w n N D S C R dn st cr) (L : Lay B n N D S C R) {a : Nat} (ha : a ≤ n) (x : Bool) :
    NetAt (w.setCell ⟨S, a, none⟩ (.bool x)) n N D S C R dn (fun i => if i = a then x else st i) cr := by
  have k1 := L.nR 0 (by omega)
  have k2 := L.dN
  have k3 := L.rS 0 (by omega)
  have k4 := L.sC
  refine ⟨cell_other h.c0 (by simp; omega), cell_other h.c3 (by simp; omega), cell_other h.c4 (by simp; omega), fun i hi => cell_other (h.down i hi) (by simp; omega), fun i hi => (h.rows i hi).other (by have := L.rS i hi; simp; omega) _, ?_, h.crR.other (by simp; omega) _⟩
  refine (h.stR.set (i := a) (by omega) (.bool x)).congr fun j hj => ?_
  unfold upd
  by_cases e : j = a <;> simp [e]

theorem NetAt.setCr {w : World} {B n N D S C : Nat} {R : Nat → Nat} {dn : Nat → Nat → Bool} {st cr : Nat → Bool} (h : NetAt w n N D S C R dn st cr) (L : Lay B n N D S C R) {a : Nat} (ha : a ≤ n) (x : Bool) :
    NetAt (w.setCell ⟨C, a, none⟩ (.bool x)) n N D S C R dn st (fun i => if i = a then x else cr i) := by
  have k1 := L.nR 0 (by omega)
  have k2 := L.dN
  have k3 := L.rS 0 (by omega)
  have k4 := L.sC
  refine ⟨cell_other h.c0 (by simp; omega), cell_other h.c3 (by simp; omega), cell_other h.c4 (by simp; omega), fun i hi => cell_other (h.down i hi) (by simp; omega), fun i hi => (h.rows i hi).other (by have := L.rS i hi; simp; omega) _, h.stR.other (by simp; omega) _, ?_⟩
  refine (h.crR.set (i := a) (by omega) (.bool x)).congr fun j hj => ?_
  unfold upd
  by_cases e : j = a <;> simp [e]

theorem NetAt.below {w w' : World} {n N D S C : Nat} {R : Nat → Nat} {dn : Nat → Nat → Bool} {st cr : Nat → Bool} (h : NetAt w n N D S C R dn st cr) (hb : Below w.heap.size w w') : NetAt w' n N D S C R dn st cr := by
  have hc : ∀ {a : Addr} {v : Value}, w.cell? a = some v → w'.cell? a = some v := fun {a v} hv => by
    rw [hb.cell (by exact World.block_lt_of_cell? w a hv)]; exact hv
  exact ⟨hc h.c0, hc h.c3, hc h.c4, fun a ha => hc (h.down a ha), fun a ha => (h.rows a ha).below hb, h.stR.below hb, h.crR.below hb⟩

end Go.Proofs.YbulkehoyGreatFmt
