/-
  The two slices that came in, as the walk wants them.
-/
import Derived.Test.YbulkehoyGreatFmtLaw
import Derived.ProofKit
import Derived.OpenShut
import Derived.Deep.Matrix
import Derived.Deep.Strs
import Derived.SizedLaws
namespace Go.Proofs.YbulkehoyGreatFmt
set_option linter.unusedVariables false
open Go.ChangeShapes Go.WideShapes Go.ChangeAt Go.RowKit Go.Deep

theorem Ybaz.cells28 : Ybaz.prog.cellsOf 28 = 3 := by kernel_rfl
theorem Ybaz.cells24 : Ybaz.prog.cellsOf 24 = 1 := by kernel_rfl
theorem Ybaz.cells5 : Ybaz.prog.cellsOf 5 = 1 := by kernel_rfl
theorem Ybaz.bytes5 : Ybaz.prog.bytesOf 5 = 1 := by kernel_rfl

section
variable {H : Type} {enc : TypeId × Value → H} {W : World} {base : Nat} {held : Bool}

theorem list3 {l : List Value} (h : l.length = 3) : ∃ a b c, l = [a, b, c] := by
  match l, h with
  | [a, b, c], _ => exact ⟨a, b, c, rfl⟩

theorem spot_of {b off c : Nat} {spot : Option Nat} {cs : List Value} (hc : c = 3) (h : W.cells? base ((⟨b, off, spot⟩ : Addr).add (0 * c)) c = some cs) : spot = none := by
  subst hc
  rw [Nat.zero_mul] at h
  obtain ⟨_, hcl, hcell⟩ := World.cells?_some h
  have h0 := hcell 0 (by omega)
  match cs, hcl with
  | [a, b, c], _ =>
    have h1 := World.cell?_spot h0
    simpa [Addr.add] using h1

theorem opsView {spare : Nat → Bool} {a : Option Addr} {len cap : Nat} {d : DataW H} {p : List MemPlace} (h : DataW.Trod enc Ybaz.prog W base spare held 22 (.slice a len cap) d p) : Ops W a len := by
  obtain ⟨fuel, hf⟩ := h
  rcases DataW.trod_slice Ybaz.underlying22 hf with ⟨hcs, _⟩ | ⟨x, l, c, elems, rest, n, _, hcs, _, _, hl, hm, hlen, hel, _, _⟩
  · simp [Value.cells] at hcs
    obtain ⟨rfl, rfl, rfl⟩ := hcs
    intro i hi
    omega
  · simp [Value.cells] at hcs
    obtain ⟨rfl, rfl, rfl⟩ := hcs
    intro i hi
    have h1 := hel i hi
    rw [List.getElem?_eq_getElem (by omega), Option.bind_eq_some_iff, Ybaz.cells28] at h1
    obtain ⟨cs, hcells, htrod⟩ := h1
    obtain ⟨_, hcl, hcell⟩ := World.cells?_some hcells
    obtain ⟨y0, y1, y2, m, _, _, t0, t1, t2⟩ := trod_struct3 Ybaz.underlying28 htrod
    obtain ⟨n0, e0, _, w0⟩ := DataW.trod_int Ybaz.underlying5 t0
    obtain ⟨n1, e1, _, w1⟩ := DataW.trod_int Ybaz.underlying5 t1
    obtain ⟨n2, e2, _, w2⟩ := DataW.trod_int Ybaz.underlying5 t2
    obtain ⟨c0, c1, c2, rfl⟩ := list3 hcl
    simp only [Ybaz.cells5] at e0 e1 e2
    simp at e0 e1 e2
    subst e0 e1 e2
    obtain ⟨b, off, spot⟩ := x
    have hc0 := hcell 0 (by omega)
    have hc1 := hcell 1 (by omega)
    have hc2 := hcell 2 (by omega)
    have hspot : spot = none := by
      have g1 := hel 0 (by omega)
      have hz0 : 0 < elems.length := by omega
      obtain ⟨cs', hcells', _⟩ := Option.bind_eq_some_iff.1 (g1.trans (List.getElem?_eq_getElem hz0))
      generalize hc3 : Ybaz.prog.cellsOf 28 = c3 at hcells'
      exact spot_of (hc3.symm.trans Ybaz.cells28) hcells'
    subst hspot
    simp only [add_plain] at hc0 hc1 hc2
    have b0 := bounds_u8 w0
    have b1 := bounds_u8 w1
    have b2 := bounds_u8 w2
    exact ⟨b, off, n0, n1, n2, rfl, by simpa using hc0, by simpa using hc1, by simpa using hc2, b0.1, by omega, b1.1, by omega, b2.1, by omega⟩

/-- What the entries read as. -/
def entsOf (len : Nat) (A : Nat → Option Addr) (L : Nat → Nat) (Z : Nat → List Int) : List (Bool × List Int) := (List.range len).map fun r => ((A r).isNone, (Z r).take (L r))
theorem entAt_entsOf {len : Nat} {A : Nat → Option Addr} {L : Nat → Nat} {Z : Nat → List Int} {i : Nat} (hi : i < len) : entAt (entsOf len A L Z) i = ((A i).isNone, (Z i).take (L i)) := by
  simp [entAt, entsOf, hi]

theorem weights_mem_all {P : Program} {e : TypeId} : ∀ {ds : List (DataW H)} {d : DataW H}, d ∈ ds → ∀ n ∈ d.weights P e, n ∈ DataW.weightsAll P e ds
  | d0 :: r, d, hd, n, hn => by
    simp only [DataW.weightsAll, List.mem_append]
    rcases List.mem_cons.1 hd with rfl | hd
    · exact .inl hn
    · exact .inr (weights_mem_all hd n hn)

theorem entsView {a : Option Addr} {len cap : Nat} {d : DataW H} {p : List MemPlace} (h : DataW.Trod enc Ybaz.prog W base (fun _ => true) held 23 (.slice a len cap) d p)
    (hw : ∀ n ∈ d.weights Ybaz.prog 23, n ≤ reachBytes) :
    ∃ es : List (Bool × List Int), es.length = len ∧ Ents W W.heap.size a es ∧ (a = none → len = 0) ∧ (∀ i, i < len → (entAt es i).2.length ≤ 140737488351232) ∧ ∀ i, i < len → (entAt es i).1 = true → (entAt es i).2 = [] := by
  obtain ⟨fuel, hf⟩ := h
  rcases open_int_rows Ybaz.underlying23 Ybaz.underlying24 Ybaz.underlying5 Ybaz.cells24 Ybaz.cells5 hf with ⟨hcs, _⟩ | ⟨x, l, c, A, L, Cc, Z, hcs, _, hl, hm, hx, hrow⟩
  · simp [Value.cells] at hcs
    obtain ⟨rfl, rfl, rfl⟩ := hcs
    exact ⟨[], rfl, .inl rfl, fun _ => rfl, fun i hi => by omega, fun i hi => by omega⟩
  · simp [Value.cells] at hcs
    obtain ⟨rfl, rfl, rfl⟩ := hcs
    simp only [Prod.mk.injEq] at hx
    obtain ⟨hd, _⟩ := hx
    refine ⟨entsOf len A L Z, by simp [entsOf], ?_, (fun h => by cases h), fun i hi => ?_, fun i hi hn => ?_⟩
    · cases len with
      | zero => exact .inl (by simp [entsOf])
      | succ m =>
        obtain ⟨b, off, spot⟩ := x
        have hspot : spot = none := by simpa [Addr.add] using World.cell?_spot (hrow 0 (by omega)).1
        subst hspot
        refine .inr ⟨b, off, rfl, fun i hi => ?_⟩
        have hi' : i < m + 1 := by simpa [entsOf] using hi
        obtain ⟨hc, h1, h2, h3, h4, h5, h6⟩ := hrow i (by omega)
        rw [add_plain] at hc
        refine ⟨_, hc, ?_⟩
        rw [entAt_entsOf hi']
        have hlen : ((Z i).take (L i)).length = L i := by simp; omega
        refine ⟨A i, Cc i, by simp only [hlen], rfl, ?_⟩
        cases hA : A i with
        | none =>
          have := h5 hA
          exact .inl (List.eq_nil_of_length_eq_zero (by simp only [hlen]; omega))
        | some a' =>
          obtain ⟨_, h7⟩ := h6 a' hA
          by_cases h0 : L i = 0
          · exact .inl (List.eq_nil_of_length_eq_zero (by simp only [hlen]; exact h0))
          · obtain ⟨b', off', spot'⟩ := a'
            have hs' : spot' = none := by simpa [Addr.add] using World.cell?_spot (h7 0 (by omega))
            subst hs'
            have hlt : b' < W.heap.size := by
              have := World.block_lt_of_cell? W _ (h7 0 (by omega))
              rwa [add_plain] at this
            refine .inr ⟨b', off', rfl, by omega, fun j hj => ?_⟩
            have hj' : j < L i := by simpa only [hlen] using hj
            rw [← add_plain, h7 j (by omega)]
            congr 2
            simp [List.getD_eq_getElem?_getD, hj']
    · rw [entAt_entsOf hi]
      obtain ⟨hc, h1, h2, h3, h4, h5, h6⟩ := hrow i (by omega)
      have hlen : ((Z i).take (L i)).length = L i := by simp; omega
      simp only [hlen]
      cases hA : A i with
      | none => have := h5 hA; omega
      | some a' =>
        have hmem : (intRow .u8 (A i) (L i) (Z i) : DataW H) ∈ (List.range len).map fun r => intRow .u8 (A r) (L r) (Z r) := List.mem_map.2 ⟨i, List.mem_range.2 hi, rfl⟩
        have hwt : ((lits (H := H) .u8 ((Z i).take (L i))).length + (lits (H := H) .u8 ((Z i).drop (L i))).length) * Ybaz.prog.bytesOf 5 ∈ (intRow .u8 (A i) (L i) (Z i) : DataW H).weights Ybaz.prog 24 := by
          simp [intRow, hA, DataW.weights, Ybaz.underlying24]
        have h8 := hw _ (by rw [hd]; simp only [DataW.weights, Ybaz.underlying23]; exact List.mem_cons_of_mem _ (List.mem_append_left _ (weights_mem_all hmem _ hwt)))
        rw [Ybaz.bytes5] at h8
        simp only [lits, List.length_map, List.length_take, List.length_drop, reachBytes] at h8
        omega
    · rw [entAt_entsOf hi] at hn ⊢
      obtain ⟨hc, h1, h2, h3, h4, h5, h6⟩ := hrow i (by omega)
      have := h5 (by simpa using hn)
      exact List.eq_nil_of_length_eq_zero (by simp; omega)
end
end Go.Proofs.YbulkehoyGreatFmt
