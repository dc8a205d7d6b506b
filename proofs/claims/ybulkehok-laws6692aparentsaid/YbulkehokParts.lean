/-
  LawS6692AWhole, LawS6692AParent: plain facts on a row of strings in memory (no walk).
-/
import Derived.Test.YbulkehokRows
import Derived.WalkKit
import Derived.WalkSpells
import Derived.WalkLawsBesides
import Derived.Laws.CopyOwn
namespace Go.Proofs.Ybulkehok
open Go.RowKit

/-- The slice that begins at 'a' holds the strings 'ss'. -/
def Strs (w : World) (a : Option Addr) (ss : List ByteArray) : Prop :=
  ss = [] ∨ ∃ b off, a = some ⟨b, off, none⟩ ∧ ∀ i, i < ss.length → w.cell? ⟨b, off + i, none⟩ = some (.string (ss.getD i ByteArray.empty))

theorem Strs.below {w w' : World} {a : Option Addr} {ss : List ByteArray} (h : Strs w a ss) (hb : Below w.heap.size w w') : Strs w' a ss := by
  rcases h with h | ⟨b, off, ha, hc⟩
  · exact .inl h
  · refine .inr ⟨b, off, ha, fun i hi => ?_⟩
    have h1 := hc i hi
    have hlt := World.block_lt_of_cell? w _ h1
    rw [hb.cell (by exact hlt)]
    exact h1

theorem Strs.take {w : World} {a : Option Addr} {ss : List ByteArray} (h : Strs w a ss) (n : Nat) : Strs w a (ss.take n) := by
  rcases h with h | ⟨b, off, ha, hc⟩
  · exact .inl (by simp [h])
  · refine .inr ⟨b, off, ha, fun i hi => ?_⟩
    simp only [List.length_take] at hi
    rw [hc i (by omega)]
    congr 2
    simp [List.getD_eq_getElem?_getD, List.getElem?_take]
    rw [if_pos (by omega)]

/-- What 'object' answers: the last of the ids, or the root's name. -/
def rootName : ByteArray := { data := #[0, 47] }
def lastOr (ss : List ByteArray) : ByteArray := ss.getLast?.getD rootName

theorem lastOr_nil : lastOr [] = rootName := rfl
theorem lastOr_pos (ss : List ByteArray) (h : 0 < ss.length) : lastOr ss = ss.getD (ss.length - 1) ByteArray.empty := by
  unfold lastOr
  rw [List.getLast?_eq_getElem?, List.getD_eq_getElem?_getD, List.getElem?_eq_getElem (by omega)]
  rfl
theorem lastOr_take_succ (ss : List ByteArray) (k : Nat) (h : k < ss.length) : lastOr (ss.take (k + 1)) = ss.getD k ByteArray.empty := by
  rw [lastOr_pos _ (by simp; omega)]
  simp [List.getD_eq_getElem?_getD, List.getElem?_take]
  rw [show min (k + 1) ss.length - 1 = k by omega]
  simp

/-- A full row that the call made is its block. -/
theorem ownsRow_block {w : World} {base e g n : Nat} {xs : List Value} (h : w.ownsRow base e 1 (.slice (some ⟨g, 0, none⟩) n n) n xs) : w.heap[g]? = some (.cells xs.toArray e (0, 0)) := by
  rcases h.2 with ⟨hv, _⟩ | ⟨g', cap, cur, hv, _, hh, _, _, hs, ht⟩
  · cases hv
  · simp only [Value.slice.injEq, Option.some.injEq, Addr.mk.injEq] at hv
    obtain ⟨⟨rfl, _, _⟩, _, rfl⟩ := hv
    have e1 : cur.toList.take (n * 1) = cur.toList := List.take_of_length_le (by simp [hs])
    rw [e1] at ht
    subst ht
    simpa using hh

theorem Strs.of_block {w : World} {g e : Nat} {ss : List ByteArray} (h : w.heap[g]? = some (.cells (ss.map Value.string).toArray e (0, 0))) : Strs w (some ⟨g, 0, none⟩) ss := by
  refine .inr ⟨g, 0, rfl, fun i hi => ?_⟩
  rw [cell_of_row w g (0 + i) _ e (0, 0) h]
  simp [List.getElem?_eq_getElem hi]

theorem splice_all {α : Type} (L cs : List α) (h : cs.length = L.length) : splice L 0 cs = cs := by
  simp [splice, ← h]
theorem map_oneCell (ss : List ByteArray) : ∀ v ∈ ss.map Value.string, v.oneCell' = true := by
  intro v hv
  obtain ⟨s, _, rfl⟩ := List.mem_map.1 hv
  rfl
theorem Strs.src {w : World} {a : Option Addr} {ss : List ByteArray} (h : Strs w a ss) (hp : 0 < ss.length) : ∃ ad, a = some ad ∧ ∀ j v, (ss.map Value.string)[j]? = some v → w.cell? (ad.add j) = some v := by
  rcases h with h | ⟨b, off, ha, hc⟩
  · simp [h] at hp
  · refine ⟨_, ha, fun j v hj => ?_⟩
    rw [show (⟨b, off, none⟩ : Addr).add j = ⟨b, off + j, none⟩ from by unfold Addr.add; split <;> simp_all]
    have hlt : j < ss.length := by have := (List.getElem?_eq_some_iff.1 hj).1; simpa using this
    rw [hc j hlt]
    simpa [List.getElem?_eq_getElem hlt] using hj

end Go.Proofs.Ybulkehok
