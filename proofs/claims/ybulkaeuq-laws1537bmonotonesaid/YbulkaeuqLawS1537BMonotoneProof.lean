/-
  THE SHELL OF A PROOF OF 'Rows.LawS1537BMonotoneSaid' ('example.com/tocker/tocker/internal/deadline.LawS1537BMonotone'), WRITTEN BY PROGRAM (proof-skeleton.mjs) off the guide's own print for that function. Not trusted: the kernel checks it.
  The walk is filled in by the prover; all else is the guide's template at this function's number and types.
-/
import Derived.Test.YbulkaeuqRows
import Derived.Test.YbulkaeuqAdd
import Derived.WalkKit
import Derived.ProofKit
import Derived.OpenShut
import Derived.ShutString
namespace Go.Proofs.Ybulkaeuq.lawS1537BMonotone
open Go.ChangeShapes Go.WideShapes Go.ChangeAt Go.RowKit
open Go.ChangeMaps (open_string shut_string)
set_option linter.unusedVariables false      -- a walk need not use every 'w<i>' (that an integer argument fits its kind)

theorem own : ownKnob Yba.prog.godebug = none := by kernel_rfl

/-! ### THE PLAIN LAW -/
theorem add_ge (n d : Int) (_ : -9223372036854775808 ≤ n) (_ : n ≤ 9223372036854775807) (_ : -9223372036854775808 ≤ d) (_ : d ≤ 9223372036854775807) : n ≤ addS n d := by
  unfold addS
  split
  · omega
  · split <;> omega
theorem add_mono (n d e : Int) (_ : d ≤ e) (_ : n ≤ 9223372036854775807) (_ : e ≤ 9223372036854775807) : addS n d ≤ addS n e := by
  unfold addS
  by_cases h1 : d ≤ 0
  · rw [if_pos h1]
    by_cases h2 : e ≤ 0
    · rw [if_pos h2]; omega
    · rw [if_neg h2]
      by_cases h3 : 9223372036854775807 - e < n
      · rw [if_pos h3]; omega
      · rw [if_neg h3]; omega
  · rw [if_neg h1, if_neg (c := e ≤ 0) (by omega)]
    by_cases h2 : 9223372036854775807 - d < n
    · rw [if_pos h2, if_pos (by omega)]; omega
    · rw [if_neg h2]
      by_cases h3 : 9223372036854775807 - e < n
      · rw [if_pos h3]; omega
      · rw [if_neg h3]; omega

/-! ### STEP 1: THE WALK: the Go text returns true. 'Grown w w'': the world has at most new blocks (Derived/RowKit3.lean). Part the cases AHEAD of 'go_enter' where a test parts the walk; take each callee by a contract of your own. -/
theorem walk (a0 : Int) (a1 : Int) (a2 : Int) (w0 : (Lit.int .i64 a0).wf = true) (w1 : (Lit.int .i64 a1).wf = true) (w2 : (Lit.int .i64 a2).wf = true) (w : World) :
    Calls Yba.prog 5 #[.int .i64 a0, .int .i64 a1, .int .i64 a2] w fun e w' => e = .returned (.bool true) ∧ Grown w w' := by
  obtain ⟨l0, u0⟩ := bounds_i64 w0
  obtain ⟨l1, u1⟩ := bounds_i64 w1
  obtain ⟨l2, u2⟩ := bounds_i64 w2
  clear w0 w1 w2
  have g1 := add_ge a0 a1 l0 u0 l1 u1
  have g2 := add_ge a0 a2 l0 u0 l2 u2
  have h1 := add_calls a0 a1 w l0 u0 l1 u1
  have h2 := add_calls a0 a2 w l0 u0 l2 u2
  by_cases c : a2 < a1
  · have m := add_mono a0 a2 a1 (by omega) u0 u1
    generalize addS a0 a1 = x1 at *
    generalize addS a0 a2 = x2 at *
    have H1 : Hid _ := h1
    have H2 : Hid _ := h2
    clear h1 h2
    go_enter Yba.func5, Yba.ntmps5
    go_wp2_with fail
    refine Calls.mono H2.out ?_
    rintro e w' ⟨rfl, rfl⟩
    go_wp2_with fail
    refine Calls.mono H1.out ?_
    rintro e w' ⟨rfl, rfl⟩
    go_wp2_with fail
    go_ret
    exact ⟨rfl, Grown.refl _⟩
  · have m := add_mono a0 a1 a2 (by omega) u0 u2
    generalize addS a0 a1 = x1 at *
    generalize addS a0 a2 = x2 at *
    have H1 : Hid _ := h1
    have H2 : Hid _ := h2
    clear h1 h2
    go_enter Yba.func5, Yba.ntmps5
    go_wp2_with fail
    refine Calls.mono H1.out ?_
    rintro e w' ⟨rfl, rfl⟩
    go_wp2_with fail
    refine Calls.mono H2.out ?_
    rintro e w' ⟨rfl, rfl⟩
    go_wp2_with fail
    go_ret
    exact ⟨rfl, Grown.refl _⟩

/-! ### THE ROW's STEP: WRITTEN OUT: LEAVE IT -/
set_option maxRecDepth 100000 in
theorem lifted (os : Os) (started : os.Started) (H : Type) (enc : TypeId × Value → H) :
    ReturnsInHanded {} Yba.checked os 5 .any (Rows.lawS1537BMonotoneSpec.pre6 enc Yba.prog Yba.f5 Rows.lawS1537BMonotoneRow.domain false) (Rows.lawS1537BMonotoneSpec.post enc Yba.prog Yba.f5 false true false false) := by
  refine returnsInHanded_of_change (C := Yba.checked) own started (by kernel_rfl) Yba.func5
    (ChangeSpec.witness6 (enc := enc) (C := Yba.checked) false ⟨#[], #[.int .i64 0, .int .i64 0, .int .i64 0], []⟩ 8 (by kernel_rfl) (by kernel_rfl) (by kernel_rfl) (by kernel_rfl)) ?_
  intro W base args ds gs before hval0 hW hcnd _
  have hval : ∀ (j : Nat) t v, Yba.f5.params[j]? = some t → args[j]? = some v → Value.okWide Yba.prog W .any base t v := hval0
  have hW' := hW
  obtain ⟨p, q, hA0, hV, rfl, hfz, hnd⟩ := hW
  have hA : DataW.TrodAll enc Yba.prog W 0 (fun _ => true) true Yba.f5.params.toList args.toList ds p := hA0
  rw [Yba.params5] at hA hval
  obtain ⟨v0, vs0, d0, ds0, p0, q0, hargs, rfl, rfl, h0, r0⟩ := trodAll_cons hA
  obtain ⟨v1, vs1, d1, ds1, p1, q1, rfl, rfl, rfl, h1, r1⟩ := trodAll_cons r0
  obtain ⟨v2, vs2, d2, ds2, p2, q2, rfl, rfl, rfl, h2, r2⟩ := trodAll_cons r1
  obtain ⟨rfl, rfl, rfl⟩ := trodAll_nil r2
  obtain rfl : args = #[v0, v1, v2] := by cases args; simp_all
  obtain ⟨rfl, rfl⟩ := trodVars_none hV
  obtain ⟨a0, rfl, rfl, rfl, w0⟩ := open_int Yba.underlying2 (hval 0 2 v0 rfl rfl) h0
  obtain ⟨a1, rfl, rfl, rfl, w1⟩ := open_int Yba.underlying2 (hval 1 2 v1 rfl rfl) h1
  obtain ⟨a2, rfl, rfl, rfl, w2⟩ := open_int Yba.underlying2 (hval 2 2 v2 rfl rfl) h2
  clear hA0 hval0
  simp only [List.append_nil] at hW'
  refine (walk a0 a1 a2 w0 w1 w2 W).mono fun e W' ⟨he, hg⟩ => ?_
  subst he
  exact ⟨_, rfl, post_of_same (pa := []) (pv := []) hW' (fun _ _ _ => (trodAll_cons_mk (shut_bool Yba.underlying4 _) trodAll_mk0)) (fun sp _ => (trodAll_cons_mk (shut_int Yba.underlying2 w0) (trodAll_cons_mk (shut_int Yba.underlying2 w1) (trodAll_cons_mk (shut_int Yba.underlying2 w2) trodAll_mk0)))) (fun _ _ => rfl) rfl
    (hg.frame _) hg.2.1 (ok_one (by kernel_rfl) rfl (okWide_bool_mk Yba.underlying4 _))⟩

theorem over : Rows.lawS1537BMonotoneRow.holds Yba.pinned (OpenSpec.ofChange Rows.lawS1537BMonotoneSpec) :=
  OpenClaim.holds_of_wide 5 Yba.f5 rfl rfl rfl rfl rfl rfl rfl ⟨rfl, rfl, rfl, rfl, rfl⟩ rfl rfl rfl rfl rfl (by kernel_rfl) Yba.func5 (by kernel_rfl)
    (of_decide_eq_true (by kernel_rfl)) (by unfold Func.isWrapper; first | (rw [if_pos (by decide +kernel)]; kernel_rfl) | (rw [if_neg (by decide +kernel)]; exact ⟨rfl, rfl⟩))
    (fun os started H enc _ => lifted os started H enc)

/-- ████ THE STATEMENT ████ -/
theorem proved : Rows.LawS1537BMonotoneSaid :=
  over
end Go.Proofs.Ybulkaeuq.lawS1537BMonotone
