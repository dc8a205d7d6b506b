/-
  A slice of strings that came in, as the walks want it.
-/
import Derived.Test.YbulkehokWalks
import Derived.ProofKit
import Derived.OpenShut
import Derived.ShutString
import Derived.ChangeOld
import Derived.SizedLaws
namespace Go.Proofs.Ybulkehok
open Go.ChangeShapes Go.WideShapes Go.ChangeAt Go.RowKit

theorem Yba.cells9 : Yba.prog.cellsOf 9 = 1 := by kernel_rfl
theorem Yba.bytes9 : Yba.prog.bytesOf 9 = 16 := by kernel_rfl

theorem view {H : Type} {enc : TypeId × Value → H} {W : World} {base : Nat} {spare : Nat → Bool} {held : Bool} {a : Option Addr} {len cap : Nat} {d : DataW H} {p : List MemPlace}
    (h : DataW.Trod enc Yba.prog W base spare held 22 (.slice a len cap) d p) :
    ∃ ss : List ByteArray, ss.length = len ∧ len ≤ maxLen ∧ (a = none → len = 0 ∧ cap = 0) ∧ Strs W a ss ∧ (d = .nil ∧ len = 0 ∨ ∃ es sp, d = .slice es sp ∧ es.length = len) := by
  obtain ⟨fuel, hf⟩ := h
  rcases open_strings Yba.underlying22 Yba.underlying9 Yba.cells9 hf with ⟨hcs, hx⟩ | ⟨x, l, c, ss, hcs, _, hl, hm, hz, hx, hcell, _⟩
  · simp [Value.cells] at hcs
    obtain ⟨rfl, rfl, rfl⟩ := hcs
    simp only [Prod.mk.injEq] at hx
    exact ⟨[], rfl, by unfold maxLen; omega, fun _ => ⟨rfl, rfl⟩, .inl rfl, .inl ⟨hx.1, rfl⟩⟩
  · simp [Value.cells] at hcs
    obtain ⟨rfl, rfl, rfl⟩ := hcs
    simp only [Prod.mk.injEq] at hx
    have hlen : len ≤ ss.length := by rw [hz]; split <;> omega
    refine ⟨ss.take len, by simp; omega, Nat.le_trans hl hm, fun h => by simp at h, ?_, .inr ⟨_, _, hx.1, by simp [strs]; omega⟩⟩
    cases len with
    | zero => exact .inl (by simp)
    | succ n =>
      obtain ⟨b, off, spot⟩ := x
      have hspot : spot = none := by simpa [Addr.add] using World.cell?_spot (hcell 0 (by omega))
      subst hspot
      have h1 : Strs W (some ⟨b, off, none⟩) ss := .inr ⟨b, off, rfl, fun i hi => by rw [← add_plain]; exact hcell i hi⟩
      exact h1.take _

end Go.Proofs.Ybulkehok
