/- The row of a job kind: the kit's shell at this function, its walk filled. -/
import Derived.Test.Qxb6604443aRows
import Derived.WalkKit
import Derived.ProofKit
import Derived.OpenShut
import Derived.ShutString
namespace Go.Proofs.Qxb6604443a.fnJobKindKnownExactlyTheTwoKinds
open Go.ChangeShapes Go.WideShapes Go.ChangeAt Go.RowKit
open Go.ChangeMaps (open_string shut_string)
set_option linter.unusedVariables false      -- a walk need not use every 'w<i>' (that an integer argument fits its kind)

theorem own : ownKnob Try.prog.godebug = none := by kernel_rfl

/-! ### STEP 1: THE WALK: the Go text returns true. -/
theorem known_calls (a0 : Int) (w : World) :
    Calls Try.prog 5 #[.int .i64 a0] w fun e w' => e = .returned (.bool (decide (0 ≤ a0) && decide (a0 < 2))) ∧ Grown w w' := by
  by_cases h1 : 0 ≤ a0 <;> by_cases h2 : a0 < 2 <;>
  · go_enter Try.func5, Try.ntmps5
    go_wp2
    go_ret
    simp [h1, h2, Grown.refl]

theorem zzKnown_calls (a0 : Int) (w : World) :
    Calls Try.prog 4 #[.int .i64 a0] w fun e w' => e = .returned (.bool (decide (0 ≤ a0) && decide (a0 < 2))) ∧ Grown w w' := by
  go_enter Try.func4, Try.ntmps4
  go_wp2_with fail
  refine (known_calls a0 w).mono ?_
  rintro _ w' ⟨rfl, hg⟩
  go_wp2
  go_ret
  exact ⟨rfl, hg⟩

theorem walk (a0 : Int) (w0 : (Lit.int .i64 a0).wf = true) (w : World) :
    Calls Try.prog 3 #[.int .i64 a0] w fun e w' => e = .returned (.bool true) ∧ Grown w w' := by
  by_cases h1 : a0 = 0
  · subst h1
    go_enter Try.func3, Try.ntmps3
    go_wp2_with fail
    refine (zzKnown_calls 0 _).mono ?_
    rintro _ w' ⟨rfl, hg⟩
    go_wp2
    go_ret
    exact ⟨rfl, hg⟩
  · by_cases h2 : a0 = 1
    · subst h2
      go_enter Try.func3, Try.ntmps3
      go_wp2_with fail
      refine (zzKnown_calls 1 _).mono ?_
      rintro _ w' ⟨rfl, hg⟩
      go_wp2
      go_ret
      exact ⟨rfl, hg⟩
    · have h3 : (decide (0 ≤ a0) && decide (a0 < 2)) = false := by
        simp only [Bool.and_eq_false_iff, decide_eq_false_iff_not]; omega
      go_enter Try.func3, Try.ntmps3
      go_wp2_with fail
      refine (zzKnown_calls a0 _).mono ?_
      rintro _ w' ⟨rfl, hg⟩
      rw [h3]
      go_wp2
      go_ret
      simp [h1, h2, hg]

/-! ### THE ROW's STEP: WRITTEN OUT: LEAVE IT -/
set_option maxRecDepth 100000 in
theorem lifted (os : Os) (started : os.Started) (H : Type) (enc : TypeId × Value → H) :
    ReturnsInHanded {} Try.checked os 3 .any (Rows.fnJobKindKnownExactlyTheTwoKindsSpec.pre6 enc Try.prog Try.f3 Rows.fnJobKindKnownExactlyTheTwoKindsRow.domain false) (Rows.fnJobKindKnownExactlyTheTwoKindsSpec.post enc Try.prog Try.f3 false true false false) := by
  refine returnsInHanded_of_change (C := Try.checked) own started (by kernel_rfl) Try.func3
    (ChangeSpec.witness6 (enc := enc) (C := Try.checked) false ⟨#[], #[.int .i64 0], []⟩ 8 (by kernel_rfl) (by kernel_rfl) (by kernel_rfl) (by kernel_rfl)) ?_
  intro W base args ds gs before hval0 hW hcnd _
  have hval : ∀ (j : Nat) t v, Try.f3.params[j]? = some t → args[j]? = some v → Value.okWide Try.prog W .any base t v := hval0
  have hW' := hW
  obtain ⟨p, q, hA0, hV, rfl, hfz, hnd⟩ := hW
  have hA : DataW.TrodAll enc Try.prog W 0 (fun _ => true) true Try.f3.params.toList args.toList ds p := hA0
  rw [Try.params3] at hA hval
  obtain ⟨v0, vs0, d0, ds0, p0, q0, hargs, rfl, rfl, h0, r0⟩ := trodAll_cons hA
  obtain ⟨rfl, rfl, rfl⟩ := trodAll_nil r0
  obtain rfl : args = #[v0] := by cases args; simp_all
  obtain ⟨rfl, rfl⟩ := trodVars_none hV
  obtain ⟨a0, rfl, rfl, rfl, w0⟩ := open_int Try.underlying3 (hval 0 3 v0 rfl rfl) h0
  clear hA0 hval0
  simp only [List.append_nil] at hW'
  refine (walk a0 w0 W).mono fun e W' ⟨he, hg⟩ => ?_
  subst he
  exact ⟨_, rfl, post_of_same (pa := []) (pv := []) hW' (fun _ _ _ => (trodAll_cons_mk (shut_bool Try.underlying4 _) trodAll_mk0)) (fun sp _ => (trodAll_cons_mk (shut_int Try.underlying3 w0) trodAll_mk0)) (fun _ _ => rfl) rfl
    (hg.frame _) hg.2.1 (ok_one (by kernel_rfl) rfl (okWide_bool_mk Try.underlying4 _))⟩

theorem over : Rows.fnJobKindKnownExactlyTheTwoKindsRow.holds Try.pinned (OpenSpec.ofChange Rows.fnJobKindKnownExactlyTheTwoKindsSpec) :=
  OpenClaim.holds_of_wide 3 Try.f3 rfl rfl rfl rfl rfl rfl rfl ⟨rfl, rfl, rfl, rfl, rfl⟩ rfl rfl rfl rfl rfl (by kernel_rfl) Try.func3 (by kernel_rfl)
    (of_decide_eq_true (by kernel_rfl)) (by unfold Func.isWrapper; first | (rw [if_pos (by decide +kernel)]; kernel_rfl) | (rw [if_neg (by decide +kernel)]; exact ⟨rfl, rfl⟩))
    (fun os started H enc _ => lifted os started H enc)

/-- ████ THE STATEMENT ████ -/
theorem proved : Rows.FnJobKindKnownExactlyTheTwoKindsSaid :=
  over
end Go.Proofs.Qxb6604443a.fnJobKindKnownExactlyTheTwoKinds
