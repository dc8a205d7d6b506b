/-
  Plain facts on rows of cells in memory (no walk).
-/
import Derived.Test.YbulkehoyGreatFmtRows
import Derived.WalkKit
import Derived.WalkSpells
import Derived.WalkLawsBesides
namespace Go.Proofs.YbulkehoyGreatFmt
open Go.RowKit

theorem Below.comp {w w1 w2 : World} (h : Below w.heap.size w w1) (k : Below w1.heap.size w1 w2) : Below w.heap.size w w2 := h.trans (k.mono h.size)
theorem below_drewN (w : World) (n : Nat) : Below w.heap.size w (w.drewN n) := ⟨rfl, rfl, rfl, Nat.le_refl _, fun _ _ => rfl⟩
theorem below_new (w : World) (n : Nat) (o : Obj) : Below w.heap.size w ((w.drewN n).alloc o) := (below_drewN w n).alloc (Nat.le_refl _) o
theorem below_one (w : World) (o : Obj) : Below w.heap.size w (w.alloc o) := (Below.refl _ _).alloc (Nat.le_refl _) o

theorem sizeAlloc (w : World) (o : Obj) : (w.alloc o).heap.size = w.heap.size + 1 := by simp

/-- The first k cells of block g hold f, and may be written. -/
def Row (w : World) (g k : Nat) (f : Nat → Value) : Prop :=
  ∀ i, i < k → w.cell? ⟨g, i, none⟩ = some (f i) ∧ w.frozen? ⟨g, i, none⟩ = false

theorem Row.cell {w : World} {g k : Nat} {f : Nat → Value} (h : Row w g k f) {i : Nat} (hi : i < k) : w.cell? ⟨g, i, none⟩ = some (f i) := (h i hi).1
theorem Row.free {w : World} {g k : Nat} {f : Nat → Value} (h : Row w g k f) {i : Nat} (hi : i < k) : w.frozen? ⟨g, i, none⟩ = false := (h i hi).2
theorem Row.lt {w : World} {g k : Nat} {f : Nat → Value} (h : Row w g k f) (hk : 0 < k) : g < w.heap.size := World.block_lt_of_cell? w _ (h 0 hk).1

theorem Row.block {w w' : World} {g k : Nat} {f : Nat → Value} (h : Row w g k f) (hb : w'.heap[g]? = w.heap[g]?) : Row w' g k f := by
  intro i hi
  refine ⟨?_, ?_⟩
  · rw [World.cell?_of_block (w := w) (a := ⟨g, i, none⟩) hb]; exact (h i hi).1
  · rw [World.frozen?_of_block (w := w) (a := ⟨g, i, none⟩) hb]; exact (h i hi).2

theorem Row.below {w w' : World} {g k : Nat} {f : Nat → Value} (h : Row w g k f) (hb : Below w.heap.size w w') : Row w' g k f := by
  cases k with
  | zero => intro i hi; omega
  | succ k => exact h.block (hb.block g (h.lt (by omega)))

theorem Row.alloc {w : World} {g k : Nat} {f : Nat → Value} (h : Row w g k f) (o : Obj) : Row (w.alloc o) g k f := h.below ((Below.refl _ _).alloc (Nat.le_refl _) _)
theorem Row.drew {w : World} {g k : Nat} {f : Nat → Value} (h : Row w g k f) : Row w.drew g k f := h

theorem Row.other {w : World} {g k : Nat} {f : Nat → Value} (h : Row w g k f) {a : Addr} (ha : a.block ≠ g) (v : Value) : Row (w.setCell a v) g k f :=
  h.block (Below.heap_setCell w a v g (fun e => ha e.symm))

/-- A function turned at one place. -/
def upd (f : Nat → Value) (i : Nat) (v : Value) : Nat → Value := fun j => if j = i then v else f j
theorem upd_same (f : Nat → Value) (i : Nat) (v : Value) : upd f i v i = v := by simp [upd]
theorem upd_other (f : Nat → Value) {i j : Nat} (v : Value) (h : j ≠ i) : upd f i v j = f j := by simp [upd, h]

theorem Row.set {w : World} {g k : Nat} {f : Nat → Value} (h : Row w g k f) {i : Nat} (hi : i < k) (v : Value) : Row (w.setCell ⟨g, i, none⟩ v) g k (upd f i v) := by
  intro j hj
  refine ⟨?_, ?_⟩
  · by_cases e : j = i
    · subst e
      rw [upd_same]
      exact World.cell?_setCell_same w _ _ (h j hj).1
    · rw [upd_other f v e, World.cell?_setCell_other _ _ _ _ (fun h => e (congrArg Addr.off h).symm)]
      exact (h j hj).1
  · rw [World.frozen?_setCell]
    exact (h j hj).2

theorem Row.of_block {w : World} {g e : Nat} {R : List Value} (h : w.heap[g]? = some (.cells R.toArray e (0, 0))) (d : Value) : Row w g R.length (fun i => R.getD i d) := by
  intro i hi
  refine ⟨?_, frozen_of_row w g i _ e h⟩
  rw [cell_of_row w g i _ e (0, 0) h]
  simp [List.getElem?_eq_getElem hi]

theorem Row.mono {w : World} {g k k' : Nat} {f : Nat → Value} (h : Row w g k f) (hk : k' ≤ k) : Row w g k' f := fun i hi => h i (Nat.lt_of_lt_of_le hi hk)
theorem Row.congr {w : World} {g k : Nat} {f f' : Nat → Value} (h : Row w g k f) (hf : ∀ i, i < k → f i = f' i) : Row w g k f' := fun i hi => by rw [← hf i hi]; exact h i hi

theorem cellAtNew (w : World) (cs : Array Value) (t : TypeId) (j : Nat) {v : Value} (h : cs[j]? = some v) {b : Nat} (hb : b = w.heap.size) : (w.alloc (.cells cs t)).cell? ⟨b, j, none⟩ = some v := by
  subst hb
  rw [cell_of_row _ _ j cs t (0, 0) (heap_alloc_new w _)]
  exact h

/-- A full row that the call made is its block. -/
theorem ownsRow_block {w : World} {base e g n : Nat} {xs : List Value} (h : w.ownsRow base e 1 (.slice (some ⟨g, 0, none⟩) n n) n xs) : w.heap[g]? = some (.cells xs.toArray e (0, 0)) := by
  rcases h.2 with ⟨hv, _⟩ | ⟨g', cap, cur, hv, _, hh, _, _, hs, ht⟩
  · cases hv
  · simp only [Value.slice.injEq, Option.some.injEq, Addr.mk.injEq] at hv
    obtain ⟨⟨rfl, _, _⟩, _, rfl⟩ := hv
    have e1 : cur.toList.take (n * 1) = cur.toList := List.take_of_length_le (by simp [hs])
    rw [e1] at ht
    subst ht
    simpa using hh

/-- A row that 'make' laid. -/
theorem Row.made {w : World} {base e g n : Nat} {z : Value} (h : w.ownsRow base e 1 (.slice (some ⟨g, 0, none⟩) n n) n (madeCells #[z] n).toList) : Row w g n (fun _ => z) := by
  have hb := ownsRow_block h
  rw [toList_madeCells_one] at hb
  have h1 := Row.of_block hb z
  rw [List.length_replicate] at h1
  refine h1.congr fun i hi => ?_
  simp [hi]

end Go.Proofs.YbulkehoyGreatFmt
