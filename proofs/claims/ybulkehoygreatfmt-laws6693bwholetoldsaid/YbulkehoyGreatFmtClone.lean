/-
  zzs6693bclone.
-/
import Derived.Test.YbulkehoyGreatFmtEnts
namespace Go.Proofs.YbulkehoyGreatFmt
set_option linter.unusedVariables false
open Go.RowKit

theorem Ybaz.info24 : (Ybaz.prog.info? 24).map (fun i => (i.zero, i.size, i.bytes)) = some (some (.slice none 0 0), 1, 24) := by kernel_rfl
theorem Ybaz.info5 : (Ybaz.prog.info? 5).map (fun i => (i.zero, i.size, i.bytes)) = some (some (.int .u8 0), 1, 1) := by kernel_rfl

/-- What the row of the copy holds behind k rounds. -/
def Cloned (w : World) (G n k : Nat) (es : List (Bool × List Int)) (f : Nat → Value) : Prop :=
  Row w G n f ∧ (∀ j, j < k → EntIs w G (f j) (entAt es j)) ∧ ∀ j, k ≤ j → j < n → f j = .slice none 0 0

theorem Cloned.skip {w : World} {G n k : Nat} {es : List (Bool × List Int)} {f : Nat → Value} (h : Cloned w G n k es f) (hk : k < n) (he : (entAt es k).1 = true) (hz : (entAt es k).2 = []) : Cloned w G n (k + 1) es f := by
  refine ⟨h.1, fun j hj => ?_, fun j h1 h2 => h.2.2 j (by omega) h2⟩
  by_cases e : j = k
  · subst e
    exact ⟨none, 0, by rw [h.2.2 j (Nat.le_refl _) hk, hz]; rfl, by rw [he]; rfl, .inl hz⟩
  · exact h.2.1 j (by omega)

theorem Cloned.below {w w' : World} {G n k : Nat} {es : List (Bool × List Int)} {f : Nat → Value} (h : Cloned w G n k es f) (hb : Below w.heap.size w w') : Cloned w' G n k es f :=
  ⟨h.1.below hb, fun j hj => (h.2.1 j hj).below hb, h.2.2⟩

theorem Cloned.set {w : World} {G n k : Nat} {es : List (Bool × List Int)} {f : Nat → Value} (h : Cloned w G n k es f) (hk : k < n) {v : Value} (hv : EntIs w G v (entAt es k)) :
    Cloned (w.setCell ⟨G, k, none⟩ v) G n (k + 1) es (upd f k v) := by
  refine ⟨h.1.set hk v, fun j hj => ?_, fun j h1 h2 => ?_⟩
  · by_cases e : j = k
    · subst e
      rw [upd_same]
      exact hv.set _ _
    · rw [upd_other f v e]
      exact (h.2.1 j (by omega)).set _ _
  · rw [upd_other f v (by omega)]
    exact h.2.2 j (by omega) h2

/-- An owned row of bytes as an entry. -/
theorem ent_of_owned {w : World} {G base n : Nat} {v : Value} {zs : List Int} (hG : G < base) (h : w.ownsRow base 5 1 v n (zs.map (Value.int .u8))) (hn : zs.length = n) (hv : v ≠ .slice none 0 0) : EntIs w G v (false, zs) := by
  rcases h.2 with ⟨h1, _⟩ | ⟨g, cap, cur, rfl, hb, hh, hcap, hm, hs, ht⟩
  · exact absurd h1 hv
  · refine ⟨_, cap, by rw [hn], rfl, .inr ⟨g, 0, rfl, by omega, fun i hi0 => ?_⟩⟩
    have hi : i < zs.length := hi0
    have hc := World.ownsRow.cellAt (w := w) (base := base) (e := 5) (size := 1) (g := g) (n := n) (cap := cap) h i (by omega)
    rw [Nat.zero_add, hc]
    simp [List.getElem?_eq_getElem hi]

theorem bytes_oneCell (zs : List Int) : ∀ u ∈ zs.map (Value.int .u8), u.oneCell' = true := ints_oneCell .u8 zs

theorem Bytes.src {w : World} {G : Nat} {ad : Addr} {zs : List Int} (h : Bytes w G (some ad) zs) : ∀ j u, (zs.map (Value.int .u8))[j]? = some u → w.cell? (ad.add j) = some u := by
  intro j u hj
  have hlt : j < zs.length := by have := (List.getElem?_eq_some_iff.1 hj).1; simpa using this
  rcases h with h | ⟨b, off, ha, _, hc⟩
  · subst h; simp at hlt
  · simp only [Option.some.injEq] at ha
    subst ha
    rw [show (⟨b, off, none⟩ : Addr).add j = ⟨b, off + j, none⟩ from by unfold Addr.add; split <;> simp_all, hc j hlt]
    simpa [List.getElem?_eq_getElem hlt] using hj

set_option maxRecDepth 100000 in
set_option maxHeartbeats 1000000 in
theorem clone_some (ad : Addr) (n c G0 : Nat) (es : List (Bool × List Int)) (w : World) (hn : es.length = n) (hm : n ≤ 1048576) (hl : ∀ i, i < n → (entAt es i).2.length ≤ 1048576) (hz : ∀ i, i < n → (entAt es i).1 = true → (entAt es i).2 = []) (h : Ents w G0 (some ad) es) :
    Calls Ybaz.prog 6 #[.slice (some ad) n c] w fun e w' => ∃ c' G, e = .returned (.slice (some ⟨G, 0, none⟩) n c') ∧ Ents w' G (some ⟨G, 0, none⟩) es ∧ Below w.heap.size w w' := by
  have q23 : ∀ (w : World) (a : Option Addr) (n c n' c' : Nat), (binOp .eql 23 (.slice a n c) (.slice none n' c')).run Ybaz.prog w = .ok (.bool a.isNone) w := fun w a n c n' c' => Lib.run_eql_slice_nil w _ _ a n c n' c' Ybaz.underlying23
  obtain ⟨i0, hi, hz0, hz1, hz2⟩ := info_parts Ybaz.info24
  obtain ⟨i5, hi5, hz50, hz51, hz52⟩ := info_parts Ybaz.info5
  go_enter Ybaz.func6, Ybaz.ntmps6
  go_wp2_with (first | (at_make; refine wpList_make_full _ rfl _ _ 23 rfl w.heap.size 24 i0 (.slice none 0 0) 1 Ybaz.underlying23 hi hz0 hz1 _ _ _ _ n rfl rfl rfl rfl (by rw [hz2]; omega) (by unfold maxLen; omega) (Nat.le_refl _) ?_))
  intro w1 hown hgrow
  have hb1 : Below w.heap.size w w1 := (Below.refl _ _).grown hgrow (Nat.le_refl _) (by intro k hk; cases hk)
  have hrow : Row w1 w.heap.size n (fun _ => .slice none 0 0) := Row.made hown
  clear hown hgrow hi hz0 hz1 hz2
  have hcl : Cloned w1 w.heap.size n 0 es (fun _ => .slice none 0 0) := ⟨hrow, fun j hj => by omega, fun j _ _ => rfl⟩
  have hsz1 : w.heap.size < w1.heap.size ∨ n = 0 := by
    by_cases e : n = 0
    · exact .inr e
    · exact .inl (hrow.lt (by omega))
  clear hrow
  go_wp2_with fail
  go_loopw [12] (fun i wr => ∃ k : Nat, k ≤ n ∧ i = .int .i64 k ∧ Below w.heap.size w wr ∧ (w.heap.size < wr.heap.size ∨ n = 0) ∧ ∃ f, Cloned wr w.heap.size n k es f) (fun i _ => n - (intOf i).toNat)
  case atStart => exact ⟨0, Nat.zero_le _, rfl, hb1, hsz1, _, hcl⟩
  case round =>
    obtain ⟨k, hk, rfl, hbel, hsz, f, hC⟩ := hrel
    by_cases hlt : k < n
    · have hlt' : (k : Int) < (n : Int) := by omega
      have hk' : w.heap.size < wr.heap.size := by omega
      rcases h.below hbel with h' | ⟨b, off, e1, hc⟩
      · subst h'; simp at hn; omega
      simp only [Option.some.injEq] at e1
      subst e1
      obtain ⟨v, hcell, p, cp, rfl, hp, hB⟩ := hc k (by omega)
      have hzk := hz k hlt
      have hlk := hl k hlt
      clear hc hz hl h hcl hsz1 hsz hn
      cases p with
      | none =>
        have C1 := hC.skip hlt hp.symm (hzk hp.symm)
        clear hC hB hzk hp
        generalize (entAt es k).2.length = len at hcell hlk
        go_wp2_with fail
        go_roundw
        case rel => exact ⟨k + 1, by omega, by go_num, hbel, .inl hk', _, C1⟩
        case measure => simp [intOf]; omega
      | some pa =>
        have he : entAt es k = (false, (entAt es k).2) := by rw [show false = (entAt es k).1 from hp]
        have HE : Hid (entAt es k = (false, (entAt es k).2)) := he
        have hrow := hC.1
        have hfz := hrow.free hlt
        clear he hp hzk
        generalize hzs : (entAt es k).2 = zs at hcell hB hlk HE
        clear hzs
        have hsrc := hB.src
        clear hB
        have c1 := hrow.cell hlt
        clear hrow
        have hcell1 : ∀ o, (wr.alloc o).cell? ⟨b, off + k, none⟩ = some (.slice (some pa) zs.length cp) := fun o => Lib.cell?_alloc_some o hcell
        have hsrc1 : ∀ o, ∀ j u, (zs.map (Value.int .u8))[j]? = some u → (wr.alloc o).cell? (pa.add j) = some u := fun o j u hj => Lib.cell?_alloc_some o (hsrc j u hj)
        have hlit := World.ownsRow_lit (base := wr.heap.size) (e := 5) (size := 1) wr #[] 0 (Nat.le_refl _) (by unfold maxLen; omega) rfl
        clear hsrc
        go_wp2_with (at_builtin; refine wpList_append_own _ rfl (.tmp 22) (.tmp 26) 24 rfl wr.heap.size 5 i5 (.int .u8 0) 1 1 Ybaz.underlying24 hi5 hz50 hz51 hz52 rfl (by decide) _ _ _ rfl hlit pa zs.length cp (zs.map (Value.int .u8)) rfl (by simp) (hsrc1 _) (bytes_oneCell zs) (by unfold maxLen; omega) (by omega) (by simp) ?_)
        intro v2 w2 hown2 hgrow2 hnil2
        have hb2 : Below wr.heap.size wr w2 := ((Below.refl _ _).alloc (Nat.le_refl _) _).grown hgrow2 (by simp) (by intro q hq; simp [Value.ownBlock] at hq; omega)
        have hE : EntIs w2 w.heap.size v2 (false, zs) := ent_of_owned hk' hown2 rfl (fun h0 => hnil2 h0)
        have hC2 := (hC.below hb2).set hlt (v := v2) (by rw [HE.out]; exact hE)
        have hfz2 : w2.frozen? ⟨w.heap.size, k, none⟩ = false := by rw [hb2.frozen (by exact hk')]; exact hfz
        have c2 : w2.cell? ⟨w.heap.size, k, none⟩ = some (f k) := by rw [hb2.cell (by exact hk')]; exact c1
        have hbw2 : Below w.heap.size w w2 := hbel.trans (hb2.mono hbel.size)
        have hsz2 : w.heap.size < w2.heap.size := Nat.lt_of_lt_of_le hk' hb2.size
        obtain ⟨p2, x2, hv2, _, _⟩ := hE
        clear hown2 hgrow2 hnil2 hlit hsrc1 hcell1 hcell hC hb2 hfz c1
        subst hv2
        go_wp2_with fail
        go_roundw
        case rel => exact ⟨k + 1, by omega, by go_num, hbw2.setCell (Nat.le_refl _) _, .inl (by simpa using hsz2), _, hC2⟩
        case measure => simp [intOf]; omega
    · have hfin : Ents wr w.heap.size (some ⟨w.heap.size, 0, none⟩) es := by
        refine .inr ⟨w.heap.size, 0, rfl, fun i hi => ?_⟩
        rw [Nat.zero_add]
        exact ⟨f i, hC.1.cell (by omega), hC.2.1 i (by omega)⟩
      clear hC hsz h hz hl hcl hsz1
      go_wp2_with fail
      go_ret
      exact ⟨_, _, rfl, hfin, hbel⟩

set_option maxRecDepth 100000 in
set_option maxHeartbeats 400000 in
theorem clone_nil (c : Nat) (w : World) : Calls Ybaz.prog 6 #[.slice none 0 c] w fun e w' => e = .returned (.slice none 0 0) ∧ w' = w := by
  have q23 : ∀ (w : World) (a : Option Addr) (n c n' c' : Nat), (binOp .eql 23 (.slice a n c) (.slice none n' c')).run Ybaz.prog w = .ok (.bool a.isNone) w := fun w a n c n' c' => Lib.run_eql_slice_nil w _ _ a n c n' c' Ybaz.underlying23
  go_enter Ybaz.func6, Ybaz.ntmps6
  go_wp2
  go_ret
  exact ⟨rfl, rfl⟩

theorem clone_any (a : Option Addr) (n c G0 : Nat) (es : List (Bool × List Int)) (w : World) (hn : es.length = n) (hm : n ≤ 1048576) (hnil : a = none → n = 0) (hl : ∀ i, i < n → (entAt es i).2.length ≤ 1048576) (hz : ∀ i, i < n → (entAt es i).1 = true → (entAt es i).2 = []) (h : Ents w G0 a es) :
    Calls Ybaz.prog 6 #[.slice a n c] w fun e w' => ∃ a' c' G, e = .returned (.slice a' n c') ∧ a'.isNone = a.isNone ∧ Ents w' G a' es ∧ Below w.heap.size w w' := by
  cases a with
  | none =>
    obtain rfl := hnil rfl
    exact (clone_nil c w).mono fun e w' ⟨he, hw⟩ => ⟨none, 0, 0, he, rfl, .inl (List.eq_nil_of_length_eq_zero hn), by rw [hw]; exact Below.refl _ _⟩
  | some ad => exact (clone_some ad n c G0 es w hn hm hl hz h).mono fun e w' ⟨c', G, he, hE, hb⟩ => ⟨_, c', G, he, rfl, hE, hb⟩

end Go.Proofs.YbulkehoyGreatFmt
