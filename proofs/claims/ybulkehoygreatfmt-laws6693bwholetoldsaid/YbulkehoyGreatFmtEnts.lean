/-
  Slices of bytes and slices of such slices in memory; bytes.Equal, zzs6693bsame.
-/
import Derived.Test.YbulkehoyGreatFmtMem
import Derived.Deep.QuietTactic
import Derived.BigQuiet
namespace Go.Proofs.YbulkehoyGreatFmt
set_option linter.unusedVariables false
open Go.RowKit

/-- The slice that begins at 'a' holds the bytes 'zs'; it does not lie in block G. -/
def Bytes (w : World) (G : Nat) (a : Option Addr) (zs : List Int) : Prop :=
  zs = [] ∨ ∃ b off, a = some ⟨b, off, none⟩ ∧ b ≠ G ∧ ∀ i, i < zs.length → w.cell? ⟨b, off + i, none⟩ = some (.int .u8 (zs.getD i 0))

theorem Bytes.block {w w' : World} {G : Nat} {a : Option Addr} {zs : List Int} (h : Bytes w G a zs) (hb : ∀ b, b < w.heap.size → b ≠ G → w'.heap[b]? = w.heap[b]?) : Bytes w' G a zs := by
  rcases h with h | ⟨b, off, ha, hG, hc⟩
  · exact .inl h
  · refine .inr ⟨b, off, ha, hG, fun i hi => ?_⟩
    have h1 := hc i hi
    have hlt := World.block_lt_of_cell? w _ h1
    rw [World.cell?_of_block (w := w) (a := ⟨b, off + i, none⟩) (hb b hlt hG)]
    exact h1
theorem Bytes.below {w w' : World} {G : Nat} {a : Option Addr} {zs : List Int} (h : Bytes w G a zs) (hb : Below w.heap.size w w') : Bytes w' G a zs :=
  h.block fun b hlt _ => hb.block b hlt
theorem Bytes.set {w : World} {G : Nat} {a : Option Addr} {zs : List Int} (h : Bytes w G a zs) (i : Nat) (v : Value) : Bytes (w.setCell ⟨G, i, none⟩ v) G a zs :=
  h.block fun b _ hG => Below.heap_setCell w ⟨G, i, none⟩ v b hG
theorem Bytes.take {w : World} {G : Nat} {a : Option Addr} {zs : List Int} (h : Bytes w G a zs) (n : Nat) : Bytes w G a (zs.take n) := by
  rcases h with h | ⟨b, off, ha, hG, hc⟩
  · exact .inl (by simp [h])
  · refine .inr ⟨b, off, ha, hG, fun i hi => ?_⟩
    simp only [List.length_take] at hi
    rw [hc i (by omega)]
    congr 2
    simp [List.getD_eq_getElem?_getD, List.getElem?_take]
    rw [if_pos (by omega)]

/-- What 'string(b)' gives. -/
theorem Bytes.conv {w : World} {G : Nat} {a : Option Addr} {zs : List Int} (h : Bytes w G a zs) (c : Nat) : (convert 24 9 (.slice a zs.length c)).run Ybaz.prog w = .ok (.string (strOfNums zs)) w := by
  rcases h with h | ⟨b, off, rfl, _, hc⟩
  · subst h
    cases a with
    | none => exact run_convert_bytes_nil w 24 5 Ybaz.underlying24 Ybaz.underlying5 0 c 9 Ybaz.underlying9
    | some ad =>
      have hl : (loadCells ad 0).run Ybaz.prog w = .ok (([] : List Int).map (Value.int .u8)).toArray w := by
        have := run_loadCells_list (P := Ybaz.prog) w ad [] (fun j v hj => by simp at hj)
        simpa using this
      rw [List.length_nil, run_convert_bytes_string w 24 9 5 _ 0 c Ybaz.underlying24 Ybaz.underlying5 Ybaz.underlying9, run_bytesToString w _ 0 c [] hl]
      rfl
  · exact run_convert_bytes_arg w 24 5 Ybaz.underlying24 Ybaz.underlying5 b off zs.length c zs rfl hc 9 Ybaz.underlying9

set_option maxRecDepth 100000 in
set_option maxHeartbeats 400000 in
theorem equal_any (a a' : Option Addr) (n c c' G G' : Nat) (zs : List Int) (w : World) (hn : zs.length = n) (h : Bytes w G a zs) (h' : Bytes w G' a' zs) :
    Calls Ybaz.prog 13 #[.slice a n c, .slice a' n c'] w fun e w' => e = .returned (.bool true) ∧ w' = w := by
  subst hn
  have q0 := h.conv c
  have q1 := h'.conv c'
  clear h h'
  generalize strOfNums zs = s at q0 q1
  go_enter Ybaz.func13, Ybaz.ntmps13
  go_wp2
  go_ret
  exact ⟨rfl, rfl⟩

/-- What an entry reads as: is it nil; its bytes. -/
def entAt (es : List (Bool × List Int)) (i : Nat) : Bool × List Int := es.getD i (true, [])
/-- The value v is a slice of that content. -/
def EntIs (w : World) (G : Nat) (v : Value) (e : Bool × List Int) : Prop := ∃ p c, v = .slice p e.2.length c ∧ p.isNone = e.1 ∧ Bytes w G p e.2
/-- The slice that begins at 'a' holds the entries 'es'; their bytes do not lie in block G. -/
def Ents (w : World) (G : Nat) (a : Option Addr) (es : List (Bool × List Int)) : Prop :=
  es = [] ∨ ∃ b off, a = some ⟨b, off, none⟩ ∧ ∀ i, i < es.length → ∃ v, w.cell? ⟨b, off + i, none⟩ = some v ∧ EntIs w G v (entAt es i)

theorem EntIs.below {w w' : World} {G : Nat} {v : Value} {e : Bool × List Int} (h : EntIs w G v e) (hb : Below w.heap.size w w') : EntIs w' G v e := by
  obtain ⟨p, c, hv, hp, hB⟩ := h
  exact ⟨p, c, hv, hp, hB.below hb⟩
theorem EntIs.set {w : World} {G : Nat} {v : Value} {e : Bool × List Int} (h : EntIs w G v e) (i : Nat) (u : Value) : EntIs (w.setCell ⟨G, i, none⟩ u) G v e := by
  obtain ⟨p, c, hv, hp, hB⟩ := h
  exact ⟨p, c, hv, hp, hB.set i u⟩
theorem Ents.below {w w' : World} {G : Nat} {a : Option Addr} {es : List (Bool × List Int)} (h : Ents w G a es) (hb : Below w.heap.size w w') : Ents w' G a es := by
  rcases h with h | ⟨b, off, ha, hc⟩
  · exact .inl h
  · refine .inr ⟨b, off, ha, fun i hi => ?_⟩
    obtain ⟨v, hv, hE⟩ := hc i hi
    have hlt := World.block_lt_of_cell? w _ hv
    exact ⟨v, by rw [hb.cell (by exact hlt)]; exact hv, hE.below hb⟩

set_option maxRecDepth 100000 in
set_option maxHeartbeats 1000000 in
/-- zzs6693bsame at two slices of one content. -/
theorem same_any (a b : Option Addr) (n c c' G G' : Nat) (es : List (Bool × List Int)) (w : World) (hn : es.length = n) (hm : n ≤ 1048576) (hab : a.isNone = b.isNone) (ha : Ents w G a es) (hb : Ents w G' b es) :
    Calls Ybaz.prog 9 #[.slice a n c, .slice b n c'] w fun e w' => e = .returned (.bool true) ∧ Below w.heap.size w w' := by
  have q23 : ∀ (w : World) (a : Option Addr) (n c n' c' : Nat), (binOp .eql 23 (.slice a n c) (.slice none n' c')).run Ybaz.prog w = .ok (.bool a.isNone) w := fun w a n c n' c' => Lib.run_eql_slice_nil w _ _ a n c n' c' Ybaz.underlying23
  have q24 : ∀ (w : World) (a : Option Addr) (n c n' c' : Nat), (binOp .eql 24 (.slice a n c) (.slice none n' c')).run Ybaz.prog w = .ok (.bool a.isNone) w := fun w a n c n' c' => Lib.run_eql_slice_nil w _ _ a n c n' c' Ybaz.underlying24
  go_enter Ybaz.func9, Ybaz.ntmps9
  go_wp2
  go_loopw [20] (fun i wr => ∃ k : Nat, k ≤ n ∧ i = .int .i64 k ∧ Below w.heap.size w wr) (fun i _ => n - (intOf i).toNat)
  case atStart => exact ⟨0, Nat.zero_le _, rfl, Below.refl _ _⟩
  case round =>
    obtain ⟨k, hk, rfl, hbel⟩ := hrel
    by_cases hlt : k < n
    · have hlt' : (k : Int) < (n : Int) := by omega
      have ha := ha.below hbel
      have hb := hb.below hbel
      rcases ha with ha | ⟨ba, oa, rfl, ca⟩
      · subst ha; simp at hn; omega
      rcases hb with hb | ⟨bb, ob, rfl, cb⟩
      · subst hb; simp at hn; omega
      obtain ⟨va, ca1, pa, xa, rfl, na, Ba⟩ := ca k (by omega)
      obtain ⟨vb, cb1, pb, xb, rfl, nb, Bb⟩ := cb k (by omega)
      clear ca cb hn hab
      generalize entAt es k = e at ca1 na Ba cb1 nb Bb
      obtain ⟨en, ez⟩ := e
      simp only at ca1 na Ba cb1 nb Bb
      go_wp2
      go_quiet ((go_at_call 13; exact Calls.quiet_of_same (equal_any _ _ _ _ _ G G' ez _ rfl (by exact Ba) (by exact Bb))))
      go_wp2
      go_roundw
      case rel => exact ⟨k + 1, by omega, by go_num, hbel.trans ((below_drewN _ _).mono hbel.size)⟩
      case measure => simp [intOf]; omega
    · go_wp2
      go_ret
      exact ⟨rfl, hbel⟩

end Go.Proofs.YbulkehoyGreatFmt
