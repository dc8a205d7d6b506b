/-
  'Rows.LawS6693BWholeToldSaid': the row lifted (fmt's text told), and the card.
-/
import Derived.Test.YbulkehoyGreatFmtView
import Derived.Test.YbulkehoyGreatFmtCards
import Derived.Test.YbulkehoyGreatFmtTie
import Derived.Stop.JoinedTold
import Derived.SevenTiedAt
import Derived.SevenToldRow
import Derived.ChangeVars
import Derived.LaidLaws
import Derived.LaidHandle
import Derived.WalkSmall
namespace Go.Proofs.YbulkehoyGreatFmt.lawS6693BWhole
open Go.ChangeShapes Go.WideShapes Go.ChangeAt Go.RowKit
open Go.Extern.Stop Go.Stop Go.Extern
set_option linter.unusedVariables false

theorem own : ownKnob Ybaz.prog.godebug = none := by kernel_rfl
theorem laidOut : laidOutB Ybaz.prog = true := by kernel_rfl
/-- The row's one variable, by the row's own word. -/
def vname : String := Rows.lawS6693BWholeSpec.vars.headD "none"
theorem gN : Ybaz.prog.globalNamed vname = some 0 := by kernel_rfl
theorem gT : (Ybaz.prog.globals[0]?).map (·.type) = some 144 := by kernel_rfl

section
variable {H : Type} {enc : TypeId × Value → H}

/-- The one variable of the row, behind a call that touched nothing of old. -/
theorem vars_kept {W W' : World} {gs : List (DataW H)} {q : List MemPlace} (hV : DataW.TrodVars enc Ybaz.prog W (fun _ => true) [vname] gs q) (bel : Below W.heap.size W W') (hlt : ∀ x ∈ q, x.block < W.heap.size) :
    DataW.TrodVars enc Ybaz.prog W' (fun b => decide (b < W.heap.size)) [vname] gs q := by
  obtain ⟨g, t, cs, fuel, d, p, rfl, hg, ht, hv, hd, rfl⟩ := trodVars_one hV
  obtain rfl := Option.some.inj (gN.symm.trans hg)
  obtain rfl := Option.some.inj (gT.symm.trans ht)
  have h0 : 0 < W.heap.size := by
    simp only [World.var?, gN, Option.bind_some] at hv
    rcases Nat.eq_zero_or_pos W.heap.size with h | h
    · rw [Array.getElem?_eq_none (by omega)] at hv; cases hv
    · exact h
  have hT : DataW.Trod enc Ybaz.prog W 0 (fun _ => true) true 144 (.agg cs) d p := ⟨fuel, hd⟩
  obtain ⟨f', hd'⟩ := Below.trod laidOut (by kernel_rfl) (of_decide_eq_true (by kernel_rfl)) hT bel (fun x hx => hlt x (List.mem_append_right _ hx))
  exact trodVars_mk1 gN gT (var?_below bel gN h0 hv) hd'
end

theorem laid_met (os : Os) (args : Array Value) : laidMetH Ybaz.prog Rows.lawS6693BWholeRow.laid (({ World.holding Ybaz.prog os ⟨#[], #[], []⟩ with heap := (World.holding Ybaz.prog os ⟨#[], #[], []⟩).heap.modify 0 fun | .cells _ t frozen => .cells #[.int .i64 (-1), .int .i64 (-1), .int .i64 (-1), .int .i64 (-1), .int .i64 (-1)] t frozen | o => o } : World).forCall (fun _ _ => 0) ⟨#[], args, []⟩).memory :=
  laidMetH_of_parts (laidMet_of_run (ps := [.cell 0 0, .cell 0 1, .cell 0 2, .cell 0 3, .cell 0 4]) 8 (by kernel_rfl) (by kernel_rfl) (by kernel_rfl)) (by kernel_rfl)

set_option maxRecDepth 100000 in
theorem lifted (os : Os) (started : os.Started) (H : Type) (enc : TypeId × Value → H) :
    ReturnsInTold none {} Ybaz.checked os 3 .any Input.okWide ((OpenSpec.ofChange Rows.lawS6693BWholeSpec).preRow enc Ybaz.prog Ybaz.f3 Rows.lawS6693BWholeRow.domain false Rows.lawS6693BWholeRow.laid)
      (fun F => ((OpenSpec.ofChange Rows.lawS6693BWholeSpec).at F).post enc Ybaz.prog Ybaz.f3 false true false false) (aloneAtReturn Ybaz.prog) nothingAlways := by
  refine returnsInTold_of_row (C := Ybaz.checked) (s := OpenSpec.ofChange Rows.lawS6693BWholeSpec) (by kernel_rfl) own started (by kernel_rfl) Ybaz.func3
    (OpenSpec.witness_stopped_at (enc := enc) (C := Ybaz.checked) false { World.holding Ybaz.prog os ⟨#[], #[], []⟩ with heap := (World.holding Ybaz.prog os ⟨#[], #[], []⟩).heap.modify 0 fun | .cells _ t frozen => .cells #[.int .i64 (-1), .int .i64 (-1), .int .i64 (-1), .int .i64 (-1), .int .i64 (-1)] t frozen | o => o } #[.int .u8 0, .int .u8 0, .int .u8 0, .slice none 0 0, .int .i64 0, .int .i64 0, .int .u8 0, .int .i64 0, .int .i64 0, .int .i64 0, .slice none 0 0] rfl (by kernel_rfl) (by kernel_rfl) (by kernel_rfl)
      (OpenSpec.preRow_of_B rfl 8 (by kernel_rfl) (by kernel_rfl) (laid_met os _))) ?_
  intro F W base args ds gs before _ hF hval0 hW hcnd _ hsz0 hL _
  have hval : ∀ (j : Nat) t v, Ybaz.f3.params[j]? = some t → args[j]? = some v → Value.okWide Ybaz.prog W .any base t v := hval0
  have hsz : (DataW.weightsEach Ybaz.prog (Ybaz.f3.params.toList ++ (OpenSpec.ofChange Rows.lawS6693BWholeSpec).bare.plain.varTypes Ybaz.prog) (ds ++ gs)).all (· ≤ reachBytes) = true := hsz0
  have hW' := hW
  obtain ⟨p, q, hA0, hV0, rfl, hfz, hnd⟩ := hW
  have hA : DataW.TrodAll enc Ybaz.prog W 0 (fun _ => true) true Ybaz.f3.params.toList args.toList ds p := hA0
  have hV : DataW.TrodVars enc Ybaz.prog W (fun _ => true) [vname] gs q := hV0
  rw [Ybaz.params3] at hA hval hsz
  obtain ⟨v0, vs0, d0, ds0, p0, q0, hargs, rfl, rfl, h0, r0⟩ := trodAll_cons hA
  obtain ⟨v1, vs1, d1, ds1, p1, q1, rfl, rfl, rfl, h1, r1⟩ := trodAll_cons r0
  obtain ⟨v2, vs2, d2, ds2, p2, q2, rfl, rfl, rfl, h2, r2⟩ := trodAll_cons r1
  obtain ⟨v3, vs3, d3, ds3, p3, q3, rfl, rfl, rfl, h3, r3⟩ := trodAll_cons r2
  obtain ⟨v4, vs4, d4, ds4, p4, q4, rfl, rfl, rfl, h4, r4⟩ := trodAll_cons r3
  obtain ⟨v5, vs5, d5, ds5, p5, q5, rfl, rfl, rfl, h5, r5⟩ := trodAll_cons r4
  obtain ⟨v6, vs6, d6, ds6, p6, q6, rfl, rfl, rfl, h6, r6⟩ := trodAll_cons r5
  obtain ⟨v7, vs7, d7, ds7, p7, q7, rfl, rfl, rfl, h7, r7⟩ := trodAll_cons r6
  obtain ⟨v8, vs8, d8, ds8, p8, q8, rfl, rfl, rfl, h8, r8⟩ := trodAll_cons r7
  obtain ⟨v9, vs9, d9, ds9, p9, q9, rfl, rfl, rfl, h9, r9⟩ := trodAll_cons r8
  obtain ⟨v10, vs10, d10, ds10, p10, q10, rfl, rfl, rfl, h10, r10⟩ := trodAll_cons r9
  obtain ⟨rfl, rfl, rfl⟩ := trodAll_nil r10
  obtain rfl : args = #[v0, v1, v2, v3, v4, v5, v6, v7, v8, v9, v10] := by cases args; simp_all
  obtain ⟨n0, rfl, rfl, rfl, w0⟩ := open_int Ybaz.underlying5 (hval 0 5 v0 rfl rfl) h0
  have b0 := bounds_u8 w0
  obtain ⟨n1, rfl, rfl, rfl, w1⟩ := open_int Ybaz.underlying5 (hval 1 5 v1 rfl rfl) h1
  have b1 := bounds_u8 w1
  obtain ⟨n2, rfl, rfl, rfl, w2⟩ := open_int Ybaz.underlying5 (hval 2 5 v2 rfl rfl) h2
  have b2 := bounds_u8 w2
  obtain ⟨a3, len3, cap3, rfl⟩ := okWide_slice Ybaz.underlying22 (hval 3 22 v3 rfl rfl)
  have k3 := h3
  have lt3 : ∀ x ∈ p3, x.block < W.heap.size := by obtain ⟨m, hm⟩ := k3; exact DataW.trod_lt m _ _ _ hm
  obtain ⟨n4, rfl, rfl, rfl, w4⟩ := open_int Ybaz.underlying3 (hval 4 3 v4 rfl rfl) h4
  have b4 := bounds_i64 w4
  obtain ⟨n5, rfl, rfl, rfl, w5⟩ := open_int Ybaz.underlying3 (hval 5 3 v5 rfl rfl) h5
  have b5 := bounds_i64 w5
  obtain ⟨n6, rfl, rfl, rfl, w6⟩ := open_int Ybaz.underlying5 (hval 6 5 v6 rfl rfl) h6
  obtain ⟨n7, rfl, rfl, rfl, w7⟩ := open_int Ybaz.underlying3 (hval 7 3 v7 rfl rfl) h7
  obtain ⟨n8, rfl, rfl, rfl, w8⟩ := open_int Ybaz.underlying3 (hval 8 3 v8 rfl rfl) h8
  obtain ⟨n9, rfl, rfl, rfl, w9⟩ := open_int Ybaz.underlying3 (hval 9 3 v9 rfl rfl) h9
  obtain ⟨a10, len10, cap10, rfl⟩ := okWide_slice Ybaz.underlying23 (hval 10 23 v10 rfl rfl)
  have k10 := h10
  have lt10 : ∀ x ∈ p10, x.block < W.heap.size := by obtain ⟨m, hm⟩ := k10; exact DataW.trod_lt m _ _ _ hm
  clear hA0 hV0 hval0 hsz0
  have ltq : ∀ x ∈ q, x.block < W.heap.size := by
    obtain ⟨g, t, cs, fuel, d, p, rfl, hg, ht, hv, hd, rfl⟩ := trodVars_one hV
    obtain rfl := Option.some.inj (gN.symm.trans hg)
    intro x hx
    rcases List.mem_append.1 hx with hx | hx
    · have h0 : 0 < W.heap.size := by
        simp only [World.var?, gN, Option.bind_some] at hv
        rcases Nat.eq_zero_or_pos W.heap.size with h | h
        · rw [Array.getElem?_eq_none (by omega)] at hv; cases hv
        · exact h
      simp only [MemPlace.row, List.mem_map] at hx
      obtain ⟨i, _, rfl⟩ := hx
      simpa [MemPlace.block, Addr.add] using h0
    · exact DataW.trod_lt fuel _ _ _ hd x hx
  have hops := opsView k3
  obtain ⟨es, hes, hents, hnil, hreach, hz⟩ := entsView k10 (fun n hn => by
    have := List.all_eq_true.1 hsz n (DataW.weights_mem_each (j := 10) (t := 23) rfl rfl n hn)
    simpa using this)
  have walk : Calls Ybaz.prog 3 #[.int .u8 n0, .int .u8 n1, .int .u8 n2, .slice a3 len3 cap3, .int .i64 n4, .int .i64 n5, .int .u8 n6, .int .i64 n7, .int .i64 n8, .int .i64 n9, .slice a10 len10 cap10] W (Fin0 W) := by
    by_cases c1 : len3 ≤ 1048576
    · by_cases c2 : len10 ≤ 1048576
      · exact law_main F.told n0 n1 n2 n6 a3 len3 cap3 n4 n5 n7 n8 n9 a10 len10 cap10 es W hF b0.1 (by omega) b1.1 (by omega) b2.1 (by omega) (by omega) (by omega) (by omega) (by omega) c1 c2 hops hes hents hnil hreach hz
      · exact law_ents n0 n1 n2 n6 a3 len3 cap3 n4 n5 n7 n8 n9 a10 len10 cap10 W c1 (by omega)
    · exact law_ops n0 n1 n2 n6 a3 len3 cap3 n4 n5 n7 n8 n9 a10 len10 cap10 W (by omega)
  refine walk.mono fun e W' ⟨he, bel⟩ => ?_
  subst he
  have hv' := vars_kept hV bel ltq
  obtain ⟨g, t, cs, fuel, d, p, rfl, hg, ht, hv, hd, rfl⟩ := trodVars_one hV
  exact ⟨_, rfl, _, _, _, [], _, _, hW', trodAll_mk1 (shut_bool Ybaz.underlying4 _), (trodAll_cons_mk (shut_int Ybaz.underlying5 w0) (trodAll_cons_mk (shut_int Ybaz.underlying5 w1) (trodAll_cons_mk (shut_int Ybaz.underlying5 w2) (trodAll_cons_mk (Below.trod laidOut (by kernel_rfl) (of_decide_eq_true (by kernel_rfl)) k3 bel lt3) (trodAll_cons_mk (shut_int Ybaz.underlying3 w4) (trodAll_cons_mk (shut_int Ybaz.underlying3 w5) (trodAll_cons_mk (shut_int Ybaz.underlying5 w6) (trodAll_cons_mk (shut_int Ybaz.underlying3 w7) (trodAll_cons_mk (shut_int Ybaz.underlying3 w8) (trodAll_cons_mk (shut_int Ybaz.underlying3 w9) (trodAll_cons_mk (Below.trod laidOut (by kernel_rfl) (of_decide_eq_true (by kernel_rfl)) k10 bel lt10) trodAll_mk0))))))))))), hv', bel.frame _, fun h => by cases h⟩

theorem pLaidOut : laidOutB Ybaz.pinned.checked.prog = true := by kernel_rfl
theorem stops : Ybaz.pinned.checked.prog.stops = ["fmt.errorf", "fmt.Sprint"] := by kernel_rfl
theorem stopKnobs : Ybaz.pinned.checked.prog.stopKnobs = [] := by kernel_rfl
theorem quiet (os : Os) : Stop.quiet Ybaz.pinned.checked.prog os := by
  intro k hk
  rw [stopKnobs] at hk
  cases hk
end Go.Proofs.YbulkehoyGreatFmt.lawS6693BWhole
