/-
  'Rows.LawS6694BWholeSaid'. The frame is the guide's shell for this function; the walk is ours.
-/
import Derived.Test.YbulkehpmModel
import Derived.WalkKit
import Derived.ProofKit
import Derived.OpenShut
import Derived.ShutString
namespace Go.Proofs.Ybulkehpm.lawS6694BWhole
open Go.ChangeShapes Go.WideShapes Go.ChangeAt Go.RowKit
open Go.ChangeMaps (open_string shut_string)
set_option linter.unusedVariables false

theorem own : ownKnob Yba.prog.godebug = none := by kernel_rfl

/-! ### The walk -/
theorem walk (a0 : Int) (a1 : Int) (w0 : (Lit.int .i64 a0).wf = true) (w1 : (Lit.int .i64 a1).wf = true) (w : World) :
    Calls Yba.prog 3 #[.int .i64 a0, .int .i64 a1] w fun e w' => e = .returned (.bool true) ∧ Grown w w' := by
  have b0 := bounds_i64 w0
  have b1 := bounds_i64 w1
  by_cases h : a0.natAbs * a1.natAbs ≤ 9223372036854775807
  · have c1 := mulSmall_fits a0 a1 b0.1 b0.2 b1.1 b1.2 h w
    have c2 := model_fits a0 a1 b0.1 b0.2 b1.1 b1.2 h w
    generalize a0 * a1 = p at c1 c2
    clear w0 w1 b0 b1 h
    go_enter Yba.func3, Yba.ntmps3
    go_wp2_with (first
      | (go_at_call 5; refine c1.mono ?_; rintro e w' ⟨rfl, rfl⟩)
      | (go_at_call 6; refine c2.mono ?_; rintro e w' ⟨rfl, rfl⟩))
    go_ret
    exact ⟨by simp, Grown.refl _⟩
  · have c1 := mulSmall_big a0 a1 b0.1 b0.2 b1.1 b1.2 (by omega) w
    have c2 := model_big a0 a1 b0.1 b0.2 b1.1 b1.2 (by omega) w
    clear w0 w1 b0 b1 h
    go_enter Yba.func3, Yba.ntmps3
    go_wp2_with (first
      | (go_at_call 5; refine c1.mono ?_; rintro e w' ⟨rfl, rfl⟩)
      | (go_at_call 6; refine c2.mono ?_; rintro e w' ⟨rfl, rfl⟩))
    go_ret
    exact ⟨by simp, Grown.refl _⟩

/-! ### The row -/
set_option maxRecDepth 100000 in
theorem lifted (os : Os) (started : os.Started) (H : Type) (enc : TypeId × Value → H) :
    ReturnsInHanded {} Yba.checked os 3 .any (Rows.lawS6694BWholeSpec.pre6 enc Yba.prog Yba.f3 Rows.lawS6694BWholeRow.domain false) (Rows.lawS6694BWholeSpec.post enc Yba.prog Yba.f3 false true false false) := by
  refine returnsInHanded_of_change (C := Yba.checked) own started (by kernel_rfl) Yba.func3
    (ChangeSpec.witness6 (enc := enc) (C := Yba.checked) false ⟨#[], #[.int .i64 0, .int .i64 0], []⟩ 8 (by kernel_rfl) (by kernel_rfl) (by kernel_rfl) (by kernel_rfl)) ?_
  intro W base args ds gs before hval0 hW hcnd _
  have hval : ∀ (j : Nat) t v, Yba.f3.params[j]? = some t → args[j]? = some v → Value.okWide Yba.prog W .any base t v := hval0
  have hW' := hW
  obtain ⟨p, q, hA0, hV, rfl, hfz, hnd⟩ := hW
  have hA : DataW.TrodAll enc Yba.prog W 0 (fun _ => true) true Yba.f3.params.toList args.toList ds p := hA0
  rw [Yba.params3] at hA hval
  obtain ⟨v0, vs0, d0, ds0, p0, q0, hargs, rfl, rfl, h0, r0⟩ := trodAll_cons hA
  obtain ⟨v1, vs1, d1, ds1, p1, q1, rfl, rfl, rfl, h1, r1⟩ := trodAll_cons r0
  obtain ⟨rfl, rfl, rfl⟩ := trodAll_nil r1
  obtain rfl : args = #[v0, v1] := by cases args; simp_all
  obtain ⟨rfl, rfl⟩ := trodVars_none hV
  obtain ⟨a0, rfl, rfl, rfl, w0⟩ := open_int Yba.underlying2 (hval 0 2 v0 rfl rfl) h0
  obtain ⟨a1, rfl, rfl, rfl, w1⟩ := open_int Yba.underlying2 (hval 1 2 v1 rfl rfl) h1
  clear hA0 hval0
  simp only [List.append_nil] at hW'
  refine (walk a0 a1 w0 w1 W).mono fun e W' ⟨he, hg⟩ => ?_
  subst he
  exact ⟨_, rfl, post_of_same (pa := []) (pv := []) hW' (fun _ _ _ => (trodAll_cons_mk (shut_bool Yba.underlying4 _) trodAll_mk0)) (fun sp _ => (trodAll_cons_mk (shut_int Yba.underlying2 w0) (trodAll_cons_mk (shut_int Yba.underlying2 w1) trodAll_mk0))) (fun _ _ => rfl) rfl
    (hg.frame _) hg.2.1 (ok_one (by kernel_rfl) rfl (okWide_bool_mk Yba.underlying4 _))⟩

theorem over : Rows.lawS6694BWholeRow.holds Yba.pinned (OpenSpec.ofChange Rows.lawS6694BWholeSpec) :=
  OpenClaim.holds_of_wide 3 Yba.f3 rfl rfl rfl rfl rfl rfl rfl ⟨rfl, rfl, rfl, rfl, rfl⟩ rfl rfl rfl rfl rfl (by kernel_rfl) Yba.func3 (by kernel_rfl)
    (of_decide_eq_true (by kernel_rfl)) (by unfold Func.isWrapper; first | (rw [if_pos (by decide +kernel)]; kernel_rfl) | (rw [if_neg (by decide +kernel)]; exact ⟨rfl, rfl⟩))
    (fun os started H enc _ => lifted os started H enc)

/-- ████ THE STATEMENT ████ -/
theorem proved : Rows.LawS6694BWholeSaid :=
  over
#print axioms proved
end Go.Proofs.Ybulkehpm.lawS6694BWhole
