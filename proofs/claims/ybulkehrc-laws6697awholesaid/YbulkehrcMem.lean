/-
  Plain facts on rows of cells in memory (no walk).
-/
import Derived.Test.YbulkehrcRows
import Derived.WalkKit
import Derived.WalkSpells
import Derived.WalkLawsBesides
import Derived.Laws.CopyOwn
namespace Go.Proofs.Ybulkehrc
open Go.RowKit

theorem Below.comp {w w1 w2 : World} (h : Below w.heap.size w w1) (k : Below w1.heap.size w1 w2) : Below w.heap.size w w2 := h.trans (k.mono h.size)
theorem below_drewN (w : World) (n : Nat) : Below w.heap.size w (w.drewN n) := ⟨rfl, rfl, rfl, Nat.le_refl _, fun _ _ => rfl⟩
theorem below_new (w : World) (n : Nat) (o : Obj) : Below w.heap.size w ((w.drewN n).alloc o) := (below_drewN w n).alloc (Nat.le_refl _) o
theorem below_one (w : World) (o : Obj) : Below w.heap.size w (w.alloc o) := (Below.refl _ _).alloc (Nat.le_refl _) o

theorem sizeAlloc (w : World) (o : Obj) : (w.alloc o).heap.size = w.heap.size + 1 := by simp

/-- The first k cells of block g hold f, and may be written. -/
def Row (w : World) (g k : Nat) (f : Nat → Value) : Prop :=
  ∀ i, i < k → w.cell? ⟨g, i, none⟩ = some (f i) ∧ w.frozen? ⟨g, i, none⟩ = false

theorem Row.cell {w : World} {g k : Nat} {f : Nat → Value} (h : Row w g k f) {i : Nat} (hi : i < k) : w.cell? ⟨g, i, none⟩ = some (f i) := (h i hi).1
theorem Row.free {w : World} {g k : Nat} {f : Nat → Value} (h : Row w g k f) {i : Nat} (hi : i < k) : w.frozen? ⟨g, i, none⟩ = false := (h i hi).2
theorem Row.lt {w : World} {g k : Nat} {f : Nat → Value} (h : Row w g k f) (hk : 0 < k) : g < w.heap.size := World.block_lt_of_cell? w _ (h 0 hk).1

theorem Row.block {w w' : World} {g k : Nat} {f : Nat → Value} (h : Row w g k f) (hb : w'.heap[g]? = w.heap[g]?) : Row w' g k f := by
  intro i hi
  refine ⟨?_, ?_⟩
  · rw [World.cell?_of_block (w := w) (a := ⟨g, i, none⟩) hb]; exact (h i hi).1
  · rw [World.frozen?_of_block (w := w) (a := ⟨g, i, none⟩) hb]; exact (h i hi).2

theorem Row.below {w w' : World} {g k : Nat} {f : Nat → Value} (h : Row w g k f) (hb : Below w.heap.size w w') : Row w' g k f := by
  cases k with
  | zero => intro i hi; omega
  | succ k => exact h.block (hb.block g (h.lt (by omega)))

theorem Row.alloc {w : World} {g k : Nat} {f : Nat → Value} (h : Row w g k f) (o : Obj) : Row (w.alloc o) g k f := h.below ((Below.refl _ _).alloc (Nat.le_refl _) _)
theorem Row.drew {w : World} {g k : Nat} {f : Nat → Value} (h : Row w g k f) : Row w.drew g k f := h

theorem Row.other {w : World} {g k : Nat} {f : Nat → Value} (h : Row w g k f) {a : Addr} (ha : a.block ≠ g) (v : Value) : Row (w.setCell a v) g k f :=
  h.block (Below.heap_setCell w a v g (fun e => ha e.symm))

/-- A function turned at one place. -/
def upd (f : Nat → Value) (i : Nat) (v : Value) : Nat → Value := fun j => if j = i then v else f j
theorem upd_same (f : Nat → Value) (i : Nat) (v : Value) : upd f i v i = v := by simp [upd]
theorem upd_other (f : Nat → Value) {i j : Nat} (v : Value) (h : j ≠ i) : upd f i v j = f j := by simp [upd, h]

theorem Row.set {w : World} {g k : Nat} {f : Nat → Value} (h : Row w g k f) {i : Nat} (hi : i < k) (v : Value) : Row (w.setCell ⟨g, i, none⟩ v) g k (upd f i v) := by
  intro j hj
  refine ⟨?_, ?_⟩
  · by_cases e : j = i
    · subst e
      rw [upd_same]
      exact World.cell?_setCell_same w _ _ (h j hj).1
    · rw [upd_other f v e, World.cell?_setCell_other _ _ _ _ (fun h => e (congrArg Addr.off h).symm)]
      exact (h j hj).1
  · rw [World.frozen?_setCell]
    exact (h j hj).2

theorem Row.of_block {w : World} {g e : Nat} {R : List Value} (h : w.heap[g]? = some (.cells R.toArray e (0, 0))) (d : Value) : Row w g R.length (fun i => R.getD i d) := by
  intro i hi
  refine ⟨?_, frozen_of_row w g i _ e h⟩
  rw [cell_of_row w g i _ e (0, 0) h]
  simp [List.getElem?_eq_getElem hi]

theorem Row.mono {w : World} {g k k' : Nat} {f : Nat → Value} (h : Row w g k f) (hk : k' ≤ k) : Row w g k' f := fun i hi => h i (Nat.lt_of_lt_of_le hi hk)
theorem Row.congr {w : World} {g k : Nat} {f f' : Nat → Value} (h : Row w g k f) (hf : ∀ i, i < k → f i = f' i) : Row w g k f' := fun i hi => by rw [← hf i hi]; exact h i hi

theorem cellAtNew (w : World) (cs : Array Value) (t : TypeId) (j : Nat) {v : Value} (h : cs[j]? = some v) {b : Nat} (hb : b = w.heap.size) : (w.alloc (.cells cs t)).cell? ⟨b, j, none⟩ = some v := by
  subst hb
  rw [cell_of_row _ _ j cs t (0, 0) (heap_alloc_new w _)]
  exact h

/-- A full row that the call made is its block. -/
theorem ownsRow_block {w : World} {base e g n : Nat} {xs : List Value} (h : w.ownsRow base e 1 (.slice (some ⟨g, 0, none⟩) n n) n xs) : w.heap[g]? = some (.cells xs.toArray e (0, 0)) := by
  rcases h.2 with ⟨hv, _⟩ | ⟨g', cap, cur, hv, _, hh, _, _, hs, ht⟩
  · cases hv
  · simp only [Value.slice.injEq, Option.some.injEq, Addr.mk.injEq] at hv
    obtain ⟨⟨rfl, _, _⟩, _, rfl⟩ := hv
    have e1 : cur.toList.take (n * 1) = cur.toList := List.take_of_length_le (by simp [hs])
    rw [e1] at ht
    subst ht
    simpa using hh

/-- A row that 'make' laid. -/
theorem Row.made {w : World} {base e g n : Nat} {z : Value} (h : w.ownsRow base e 1 (.slice (some ⟨g, 0, none⟩) n n) n (madeCells #[z] n).toList) : Row w g n (fun _ => z) := by
  have hb := ownsRow_block h
  rw [toList_madeCells_one] at hb
  have h1 := Row.of_block hb z
  rw [List.length_replicate] at h1
  refine h1.congr fun i hi => ?_
  simp [hi]

/-- The slice that came in: its first n cells. -/
def Src (w : World) (a : Option Addr) (n : Nat) (z : Nat → Int) : Prop :=
  n = 0 ∨ ∃ b off, a = some ⟨b, off, none⟩ ∧ ∀ i, i < n → w.cell? ⟨b, off + i, none⟩ = some (.int .u8 (z i))
theorem Src.below {w w' : World} {a : Option Addr} {n : Nat} {z : Nat → Int} (h : Src w a n z) (hb : Below w.heap.size w w') : Src w' a n z := by
  rcases h with h | ⟨b, off, ha, hc⟩
  · exact .inl h
  · refine .inr ⟨b, off, ha, fun i hi => ?_⟩
    have h1 := hc i hi
    have hlt := World.block_lt_of_cell? w _ h1
    rw [hb.cell (by exact hlt)]
    exact h1

/-- The table behind k rounds of the first loop; the table whole. -/
def fill (z : Nat → Int) (k j : Nat) : Int := if j < k then z j else 0
def tab (z : Nat → Int) (m j : Nat) : Int := if j < m then z j else 1
theorem tab_last (z : Nat → Int) (m : Nat) : tab z m m = 1 := by simp [tab]

theorem fill_step {w : World} {g n : Nat} {z : Nat → Int} {k : Nat} (h : Row w g n (fun j => .int .u8 (fill z k j))) (hk : k < n) : Row (w.setCell ⟨g, k, none⟩ (.int .u8 (z k))) g n (fun j => .int .u8 (fill z (k + 1) j)) := by
  refine (h.set hk (.int .u8 (z k))).congr fun i hi => ?_
  by_cases e : i = k
  · subst e; rw [upd_same]; simp [fill]
  · rw [upd_other _ _ e]; simp only [fill]
    by_cases hl : i < k
    · rw [if_pos hl, if_pos (by omega)]
    · rw [if_neg hl, if_neg (by omega)]
theorem fill_last {w : World} {g m : Nat} {z : Nat → Int} (h : Row w g (m + 1) (fun j => .int .u8 (fill z m j))) : Row (w.setCell ⟨g, m, none⟩ (.int .u8 1)) g (m + 1) (fun j => .int .u8 (tab z m j)) := by
  refine (h.set (by omega) (.int .u8 1)).congr fun i hi => ?_
  by_cases e : i = m
  · subst e; rw [upd_same, tab_last]
  · rw [upd_other _ _ e]; simp only [fill, tab]
    rw [if_pos (by omega), if_pos (by omega)]

/-- 'v' is the first banking day at or behind k. -/
def First (t : Nat → Int) (m k v : Nat) : Prop := t v = 1 ∧ v ≤ m ∧ (k ≤ v ∨ v = m) ∧ ∀ i, k ≤ i → i < v → t i ≠ 1
theorem First.start {t : Nat → Int} {m : Nat} (h : t m = 1) : First t m (m + 1) m := ⟨h, Nat.le_refl _, .inr rfl, fun i h1 h2 => by omega⟩
theorem First.hit {t : Nat → Int} {m k : Nat} (h : t k = 1) (hk : k ≤ m) : First t m k k := ⟨h, hk, .inl (Nat.le_refl _), fun i h1 h2 => by omega⟩
theorem First.miss {t : Nat → Int} {m k v : Nat} (h : First t m (k + 1) v) (hk : t k ≠ 1) : First t m k v := by
  obtain ⟨h1, h2, h3, h4⟩ := h
  refine ⟨h1, h2, ?_, fun i hi1 hi2 => ?_⟩
  · rcases h3 with h3 | h3
    · exact .inl (by omega)
    · exact .inr h3
  · by_cases e : i = k
    · subst e; exact hk
    · exact h4 i (by omega) hi2

/-- The table's cells as a list. -/
def cellsOf (t : Nat → Int) (n : Nat) : List Value := (List.range n).map fun i => .int .u8 (t i)
theorem cellsOf_length (t : Nat → Int) (n : Nat) : (cellsOf t n).length = n := by simp [cellsOf]
theorem cellsOf_oneCell (t : Nat → Int) (n : Nat) : ∀ v ∈ cellsOf t n, v.oneCell' = true := by
  intro v hv
  obtain ⟨s, _, rfl⟩ := List.mem_map.1 hv
  rfl
theorem Row.src {w : World} {g n : Nat} {t : Nat → Int} (h : Row w g n (fun j => .int .u8 (t j))) : ∀ j v, (cellsOf t n)[j]? = some v → w.cell? ((⟨g, 0, none⟩ : Addr).add j) = some v := by
  intro j v hj
  have hlt : j < n := by have := (List.getElem?_eq_some_iff.1 hj).1; simpa [cellsOf] using this
  rw [show (⟨g, 0, none⟩ : Addr).add j = ⟨g, j, none⟩ from by unfold Addr.add; split <;> simp_all, h.cell hlt]
  simpa [cellsOf, hlt] using hj
theorem Row.of_cells {w : World} {g e n : Nat} {t : Nat → Int} (h : w.heap[g]? = some (.cells (cellsOf t n).toArray e (0, 0))) : Row w g n (fun j => .int .u8 (t j)) := by
  have h1 := Row.of_block h (.int .u8 0)
  rw [cellsOf_length] at h1
  refine h1.congr fun i hi => ?_
  simp [cellsOf, hi]
theorem splice_all {α : Type} (L cs : List α) (h : cs.length = L.length) : splice L 0 cs = cs := by
  simp [splice, ← h]

end Go.Proofs.Ybulkehrc
