/-
  'Rows.LawS6694CWholeSaid': compareWide orders wides as the law's keys do. The frame is the seat's shell (proof-skeleton.mjs), the walk is filled in.
-/
import Derived.Test.YbulkehpmSmall
import Derived.WalkKit
import Derived.ProofKit
import Derived.OpenShut
import Derived.ShutString
namespace Go.Proofs.Ybulkehpm.lawS6694CWhole
open Go.ChangeShapes Go.WideShapes Go.ChangeAt Go.RowKit
open Go.ChangeMaps (open_string shut_string)
set_option linter.unusedVariables false      -- a walk need not use every 'w<i>' (that an integer argument fits its kind)

theorem own : ownKnob Yba.prog.godebug = none := by kernel_rfl

/-- The rank and the parts of a wide's key. -/
def kc (n : Bool) : Int := if n then 0 else 1
def kv (n : Bool) (x : Int) : Int := if n then 18446744073709551615 - x else x
theorem key_any (n : Bool) (x l : Int) (hh0 : 0 ≤ x) (hh1 : x ≤ 18446744073709551615) (hl0 : 0 ≤ l) (hl1 : l ≤ 18446744073709551615) (w : World) :
    Calls Yba.prog 8 #[.bool n, .int .u64 x, .int .u64 l] w fun e w' => e = .returned (.tuple #[.int .u64 (kc n), .int .u64 (kv n x), .int .u64 (kv n l)]) ∧ w' = w := by
  cases n
  · exact key_no x l w
  · exact key_yes x l hh0 hh1 hl0 hl1 w

/-- What the law reckons by keys. -/
def want (xn : Bool) (xh xl : Int) (yn : Bool) (yh yl : Int) : Int :=
  if sgn (kc xn) (kc yn) = 0 then (if sgn (kv xn xh) (kv yn yh) = 0 then sgn (kv xn xl) (kv yn yl) else sgn (kv xn xh) (kv yn yh)) else sgn (kc xn) (kc yn)
theorem sgn_flip (a b : Int) : sgn (18446744073709551615 - a) (18446744073709551615 - b) = -(sgn a b) := by
  unfold sgn
  rcases Int.lt_trichotomy a b with h | h | h
  · rw [if_pos h, if_neg (by omega), if_pos (by omega)]; rfl
  · subst h; simp
  · rw [if_neg (by omega : ¬ a < b), if_pos h, if_pos (by omega)]
theorem want_eq (xn : Bool) (xh xl : Int) (yn : Bool) (yh yl : Int) : cmpW xn xh xl yn yh yl = want xn xh xl yn yh yl := by
  have h11 : sgn 1 1 = 0 := by decide
  have h00 : sgn 0 0 = 0 := by decide
  have h01 : sgn 0 1 = -1 := by decide
  have h10 : sgn 1 0 = 1 := by decide
  cases xn <;> cases yn
  · simp [cmpW, want, kc, kv, h11, sgn2]
  · simp [cmpW, want, kc, h10]
  · simp [cmpW, want, kc, h01]
  · simp only [cmpW, want, kc, kv, sgn2, sgn_flip, h00, if_true]
    by_cases h : sgn xh yh = 0
    · simp [h]
    · simp [h]
theorem ret_true {a b : Int} (h : a = b) : Ending.returned (.bool (a == b)) = .returned (.bool true) := by subst h; simp
theorem grown_trans {a b c : World} (h : Grown a b) (k : Grown b c) : Grown a c :=
  ⟨World.keptBut_trans h.1 k.1, fun x => (k.2.1 x).trans (h.2.1 x), Nat.le_trans h.2.2 k.2.2⟩

/-! ### STEP 1: THE WALK: the Go text returns true. -/
set_option maxHeartbeats 400000 in
theorem walk (a0 : Bool) (a1 : Int) (a2 : Int) (a3 : Bool) (a4 : Int) (a5 : Int) (w1 : (Lit.int .u64 a1).wf = true) (w2 : (Lit.int .u64 a2).wf = true) (w4 : (Lit.int .u64 a4).wf = true) (w5 : (Lit.int .u64 a5).wf = true) (w : World) :
    Calls Yba.prog 4 #[.bool a0, .int .u64 a1, .int .u64 a2, .bool a3, .int .u64 a4, .int .u64 a5] w fun e w' => e = .returned (.bool true) ∧ Grown w w' := by
  have b1 := bounds_u64 w1
  have b2 := bounds_u64 w2
  have b4 := bounds_u64 w4
  have b5 := bounds_u64 w5
  have E : Hid (cmpW a0 a1 a2 a3 a4 a5 = want a0 a1 a2 a3 a4 a5) := want_eq a0 a1 a2 a3 a4 a5
  by_cases c : sgn (kc a0) (kc a3) = 0
  · have c' : (sgn (kc a0) (kc a3) == 0) = true := by simp [c]
    have C : Hid (sgn (kc a0) (kc a3) = 0) := c
    clear c
    by_cases h : sgn (kv a0 a1) (kv a3 a4) = 0
    · have h' : (sgn (kv a0 a1) (kv a3 a4) == 0) = true := by simp [h]
      have H : Hid (sgn (kv a0 a1) (kv a3 a4) = 0) := h
      clear h
      go_enter Yba.func4, Yba.ntmps4
      go_wp2_with (first | (go_at_call 7; refine (compareWide_any _ _ _ _ _ _ _).mono ?_; rintro e w' ⟨rfl, hg⟩) | (go_at_call 9; refine (sign3_any _ _ _).mono ?_; rintro e w' ⟨rfl, rfl⟩) | (go_at_call 8; refine (key_any _ _ _ (by omega) (by omega) (by omega) (by omega) _).mono ?_; rintro e w' ⟨rfl, rfl⟩))
      go_ret
      refine ⟨ret_true (by rw [E.out]; simp [want, C.out, H.out]), grown_trans (by repeat (first | exact Grown.refl _ | apply Grown.drew | apply Grown.alloc)) hg⟩
    · have h' : (sgn (kv a0 a1) (kv a3 a4) == 0) = false := by simp [h]
      have H : Hid (¬ sgn (kv a0 a1) (kv a3 a4) = 0) := h
      clear h
      go_enter Yba.func4, Yba.ntmps4
      go_wp2_with (first | (go_at_call 7; refine (compareWide_any _ _ _ _ _ _ _).mono ?_; rintro e w' ⟨rfl, hg⟩) | (go_at_call 9; refine (sign3_any _ _ _).mono ?_; rintro e w' ⟨rfl, rfl⟩) | (go_at_call 8; refine (key_any _ _ _ (by omega) (by omega) (by omega) (by omega) _).mono ?_; rintro e w' ⟨rfl, rfl⟩))
      go_ret
      refine ⟨ret_true (by rw [E.out]; simp [want, C.out, H.out]), grown_trans (by repeat (first | exact Grown.refl _ | apply Grown.drew | apply Grown.alloc)) hg⟩
  · have c' : (sgn (kc a0) (kc a3) == 0) = false := by simp [c]
    have C : Hid (¬ sgn (kc a0) (kc a3) = 0) := c
    clear c
    go_enter Yba.func4, Yba.ntmps4
    go_wp2_with (first | (go_at_call 7; refine (compareWide_any _ _ _ _ _ _ _).mono ?_; rintro e w' ⟨rfl, hg⟩) | (go_at_call 9; refine (sign3_any _ _ _).mono ?_; rintro e w' ⟨rfl, rfl⟩) | (go_at_call 8; refine (key_any _ _ _ (by omega) (by omega) (by omega) (by omega) _).mono ?_; rintro e w' ⟨rfl, rfl⟩))
    go_ret
    refine ⟨ret_true (by rw [E.out]; simp [want, C.out]), grown_trans (by repeat (first | exact Grown.refl _ | apply Grown.drew | apply Grown.alloc)) hg⟩

/-! ### THE ROW's STEP: WRITTEN OUT: LEAVE IT -/
set_option maxRecDepth 100000 in
theorem lifted (os : Os) (started : os.Started) (H : Type) (enc : TypeId × Value → H) :
    ReturnsInHanded {} Yba.checked os 4 .any (Rows.lawS6694CWholeSpec.pre6 enc Yba.prog Yba.f4 Rows.lawS6694CWholeRow.domain false) (Rows.lawS6694CWholeSpec.post enc Yba.prog Yba.f4 false true false false) := by
  refine returnsInHanded_of_change (C := Yba.checked) own started (by kernel_rfl) Yba.func4
    (ChangeSpec.witness6 (enc := enc) (C := Yba.checked) false ⟨#[], #[.bool false, .int .u64 0, .int .u64 0, .bool false, .int .u64 0, .int .u64 0], []⟩ 8 (by kernel_rfl) (by kernel_rfl) (by kernel_rfl) (by kernel_rfl)) ?_
  intro W base args ds gs before hval0 hW hcnd _
  have hval : ∀ (j : Nat) t v, Yba.f4.params[j]? = some t → args[j]? = some v → Value.okWide Yba.prog W .any base t v := hval0
  have hW' := hW
  obtain ⟨p, q, hA0, hV, rfl, hfz, hnd⟩ := hW
  have hA : DataW.TrodAll enc Yba.prog W 0 (fun _ => true) true Yba.f4.params.toList args.toList ds p := hA0
  rw [Yba.params4] at hA hval
  obtain ⟨v0, vs0, d0, ds0, p0, q0, hargs, rfl, rfl, h0, r0⟩ := trodAll_cons hA
  obtain ⟨v1, vs1, d1, ds1, p1, q1, rfl, rfl, rfl, h1, r1⟩ := trodAll_cons r0
  obtain ⟨v2, vs2, d2, ds2, p2, q2, rfl, rfl, rfl, h2, r2⟩ := trodAll_cons r1
  obtain ⟨v3, vs3, d3, ds3, p3, q3, rfl, rfl, rfl, h3, r3⟩ := trodAll_cons r2
  obtain ⟨v4, vs4, d4, ds4, p4, q4, rfl, rfl, rfl, h4, r4⟩ := trodAll_cons r3
  obtain ⟨v5, vs5, d5, ds5, p5, q5, rfl, rfl, rfl, h5, r5⟩ := trodAll_cons r4
  obtain ⟨rfl, rfl, rfl⟩ := trodAll_nil r5
  obtain rfl : args = #[v0, v1, v2, v3, v4, v5] := by cases args; simp_all
  obtain ⟨rfl, rfl⟩ := trodVars_none hV
  obtain ⟨a0, rfl, rfl, rfl⟩ := open_bool Yba.underlying4 (hval 0 4 v0 rfl rfl) h0
  obtain ⟨a1, rfl, rfl, rfl, w1⟩ := open_int Yba.underlying25 (hval 1 25 v1 rfl rfl) h1
  obtain ⟨a2, rfl, rfl, rfl, w2⟩ := open_int Yba.underlying25 (hval 2 25 v2 rfl rfl) h2
  obtain ⟨a3, rfl, rfl, rfl⟩ := open_bool Yba.underlying4 (hval 3 4 v3 rfl rfl) h3
  obtain ⟨a4, rfl, rfl, rfl, w4⟩ := open_int Yba.underlying25 (hval 4 25 v4 rfl rfl) h4
  obtain ⟨a5, rfl, rfl, rfl, w5⟩ := open_int Yba.underlying25 (hval 5 25 v5 rfl rfl) h5
  clear hA0 hval0
  simp only [List.append_nil] at hW'
  refine (walk a0 a1 a2 a3 a4 a5 w1 w2 w4 w5 W).mono fun e W' ⟨he, hg⟩ => ?_
  subst he
  exact ⟨_, rfl, post_of_same (pa := []) (pv := []) hW' (fun _ _ _ => (trodAll_cons_mk (shut_bool Yba.underlying4 _) trodAll_mk0)) (fun sp _ => (trodAll_cons_mk (shut_bool Yba.underlying4 _) (trodAll_cons_mk (shut_int Yba.underlying25 w1) (trodAll_cons_mk (shut_int Yba.underlying25 w2) (trodAll_cons_mk (shut_bool Yba.underlying4 _) (trodAll_cons_mk (shut_int Yba.underlying25 w4) (trodAll_cons_mk (shut_int Yba.underlying25 w5) trodAll_mk0))))))) (fun _ _ => rfl) rfl
    (hg.frame _) hg.2.1 (ok_one (by kernel_rfl) rfl (okWide_bool_mk Yba.underlying4 _))⟩

theorem over : Rows.lawS6694CWholeRow.holds Yba.pinned (OpenSpec.ofChange Rows.lawS6694CWholeSpec) :=
  OpenClaim.holds_of_wide 4 Yba.f4 rfl rfl rfl rfl rfl rfl rfl ⟨rfl, rfl, rfl, rfl, rfl⟩ rfl rfl rfl rfl rfl (by kernel_rfl) Yba.func4 (by kernel_rfl)
    (of_decide_eq_true (by kernel_rfl)) (by unfold Func.isWrapper; first | (rw [if_pos (by decide +kernel)]; kernel_rfl) | (rw [if_neg (by decide +kernel)]; exact ⟨rfl, rfl⟩))
    (fun os started H enc _ => lifted os started H enc)

/-- ████ THE STATEMENT ████ -/
theorem proved : Rows.LawS6694CWholeSaid :=
  over
#print axioms proved
end Go.Proofs.Ybulkehpm.lawS6694CWhole
