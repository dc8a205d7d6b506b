/-
  Copies of rows of bools.
-/
import Derived.Test.YbulkehoyGreatFmtNodes
namespace Go.Proofs.YbulkehoyGreatFmt
set_option linter.unusedVariables false
open Go.RowKit

def newsOf (f : Nat → Bool) (m : Nat) : List Value := (List.range m).map (fun i => .bool (f i))
theorem newsOf_length (f : Nat → Bool) (m : Nat) : (newsOf f m).length = m := by simp [newsOf]
theorem newsOf_one (f : Nat → Bool) (m : Nat) : ∀ u ∈ newsOf f m, u.oneCell' = true := by
  intro u hu
  obtain ⟨i, _, rfl⟩ := List.mem_map.1 hu
  rfl
theorem newsOf_src {w : World} {g m : Nat} {f : Nat → Bool} (h : Row w g m (fun i => .bool (f i))) : ∀ j u, (newsOf f m)[j]? = some u → w.cell? ((⟨g, 0, none⟩ : Addr).add j) = some u := by
  intro j u hj
  have hlt : j < m := by have := (List.getElem?_eq_some_iff.1 hj).1; rwa [newsOf_length] at this
  rw [show (⟨g, 0, none⟩ : Addr).add j = ⟨g, j, none⟩ from by unfold Addr.add; split <;> simp_all, h.cell hlt]
  simpa [newsOf, hlt] using hj

/-- The value is a slice of m bools in a block behind G. -/
def BoolsIs (w : World) (G : Nat) (v : Value) (m : Nat) (f : Nat → Bool) : Prop := ∃ g c, G < g ∧ v = .slice (some ⟨g, 0, none⟩) m c ∧ Row w g m (fun i => .bool (f i))
theorem BoolsIs.below {w w' : World} {G : Nat} {v : Value} {m : Nat} {f : Nat → Bool} (h : BoolsIs w G v m f) (hb : Below w.heap.size w w') : BoolsIs w' G v m f := by
  obtain ⟨g, c, h1, h2, h3⟩ := h
  exact ⟨g, c, h1, h2, h3.below hb⟩
theorem BoolsIs.set {w : World} {G : Nat} {v : Value} {m : Nat} {f : Nat → Bool} (h : BoolsIs w G v m f) (j : Nat) (u : Value) : BoolsIs (w.setCell ⟨G, j, none⟩ u) G v m f := by
  obtain ⟨g, c, h1, h2, h3⟩ := h
  exact ⟨g, c, h1, h2, h3.other (by simp; omega) _⟩
theorem bools_of_owned {w : World} {G base m : Nat} {v : Value} {f : Nat → Bool} (hG : G < base) (h : w.ownsRow base 4 1 v m (newsOf f m)) (hv : v ≠ .slice none 0 0) : BoolsIs w G v m f := by
  rcases h.2 with ⟨h1, _⟩ | ⟨g, cap, cur, rfl, hb, hh, hcap, hm, hs, ht⟩
  · exact absurd h1 hv
  · refine ⟨g, cap, by omega, rfl, fun i hi => ⟨?_, World.ownsRow.frozenAt (w := w) (base := base) (e := 4) (size := 1) (g := g) (n := m) (cap := cap) h i⟩⟩
    rw [World.ownsRow.cellAt (w := w) (base := base) (e := 4) (size := 1) (g := g) (n := m) (cap := cap) h i (by omega)]
    simp [newsOf, hi]

/-- The copies of the rows behind k rounds. -/
def Inv5 (w : World) (DC n k : Nat) (dn : Nat → Nat → Bool) : Prop := ∃ fd, Row w DC (n + 1) fd ∧ ∀ i, i < k → BoolsIs w DC (fd i) (n + 1) (dn i)
theorem Inv5.below {w w' : World} {DC n k : Nat} {dn : Nat → Nat → Bool} (h : Inv5 w DC n k dn) (hb : Below w.heap.size w w') : Inv5 w' DC n k dn := by
  obtain ⟨fd, h1, h2⟩ := h
  exact ⟨fd, h1.below hb, fun i hi => (h2 i hi).below hb⟩
theorem Inv5.step {w : World} {DC n k : Nat} {dn : Nat → Nat → Bool} {v : Value} (h : Inv5 w DC n k dn) (hk : k < n + 1) (hv : BoolsIs w DC v (n + 1) (dn k)) : Inv5 (w.setCell ⟨DC, k, none⟩ v) DC n (k + 1) dn := by
  obtain ⟨fd, h1, h2⟩ := h
  refine ⟨upd fd k v, h1.set hk v, fun i hi => ?_⟩
  by_cases e : i = k
  · subst e; rw [upd_same]; exact hv.set _ _
  · rw [upd_other _ _ e]; exact (h2 i (by omega)).set _ _
end Go.Proofs.YbulkehoyGreatFmt
