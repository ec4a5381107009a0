/-
  THE PROOF OF 'Rows.FnReserveStepsOnePerThreeNsSaid': the given shell (its frame as the program wrote it), the walk filled in.
-/
import Derived.Test.Qxb6613050aModsRows
import Derived.WalkKit
import Derived.ProofKit
import Derived.OpenShut
import Derived.ShutString
import Derived.Test.Qxb6613050aModsSteps
namespace Go.Proofs.Qxb6613050aMods.fnReserveStepsOnePerThreeNs
open Go.ChangeShapes Go.WideShapes Go.ChangeAt Go.RowKit
open Go.ChangeMaps (open_string shut_string)
set_option linter.unusedVariables false      -- a walk need not use every 'w<i>' (that an integer argument fits its kind)

theorem own : ownKnob Trym.prog.godebug = none := by kernel_rfl

open Go.Proofs.Qxb6613050aMods.Steps

/-! ### THE PLAIN LAW -/
theorem step_up (x k : Int) (h : 0 ≤ x) (hk : 0 ≤ k) : thr (x + 3 * k) = thr x + k := by
  have h1 := thr_pos x h
  have h2 := thr_pos (x + 3 * k) (by omega)
  omega
theorem step_down (x k : Int) (h : x < 0) (hk : 0 ≤ k) : thr (x - 3 * k) = thr x - k := by
  have h1 := thr_npos x (by omega)
  have h2 := thr_npos (x - 3 * k) (by omega)
  omega

/-! ### STEP 1: THE WALK: the Go text returns true. 'Grown w w'': the world has at most new blocks (Derived/RowKit3.lean). Part the cases AHEAD of 'go_enter' where a test parts the walk; take each callee by a contract of your own. -/
theorem walk (a0 : Int) (a1 : Int) (w0 : (Lit.int .i64 a0).wf = true) (w1 : (Lit.int .i64 a1).wf = true) (w : World) :
    Calls Trym.prog 3 #[.int .i64 a0, .int .i64 a1] w fun e w' => e = .returned (.bool true) ∧ Grown w w' := by
  obtain ⟨p0, p1⟩ := bounds_i64 w0
  obtain ⟨q0, q1⟩ := bounds_i64 w1
  clear w0 w1
  by_cases c1 : a1 < 0
  · go_enter Trym.func3, Trym.ntmps3
    go_wp2
    go_ret
    exact ⟨rfl, Grown.refl _⟩
  by_cases c2 : 3074457345618258602 < a1
  · go_enter Trym.func3, Trym.ntmps3
    go_wp2
    go_ret
    exact ⟨rfl, Grown.refl _⟩
  have hb := thr_bd a0 p0 p1
  by_cases c3 : 0 ≤ a0
  · by_cases c4 : 9223372036854775807 - 3 * a1 < a0
    · go_enter Trym.func3, Trym.ntmps3
      go_wp2
      go_ret
      exact ⟨rfl, Grown.refl _⟩
    · have e1 : (thr (a0 + 3 * a1) == thr a0 + a1) = true := by rw [step_up a0 a1 c3 (by omega)]; simp
      go_enter Trym.func3, Trym.ntmps3
      go_wp2_with fail
      refine (reserve a0 p0 p1 _).mono ?_
      rintro e w' ⟨rfl, rfl⟩
      go_wp2_with fail
      refine (reserve (a0 + 3 * a1) (by omega) (by omega) _).mono ?_
      rintro e w' ⟨rfl, rfl⟩
      go_wp2_with fail
      refine (third a0 p0 p1 _).mono ?_
      rintro e w' ⟨rfl, rfl⟩
      go_wp2
      go_ret
      exact ⟨rfl, Grown.refl _⟩
  · by_cases c4 : a0 < -9223372036854775808 + 3 * a1
    · go_enter Trym.func3, Trym.ntmps3
      go_wp2
      go_ret
      exact ⟨rfl, Grown.refl _⟩
    · have e1 : (thr (a0 - 3 * a1) == thr a0 - a1) = true := by rw [step_down a0 a1 (by omega) (by omega)]; simp
      go_enter Trym.func3, Trym.ntmps3
      go_wp2_with fail
      refine (reserve a0 p0 p1 _).mono ?_
      rintro e w' ⟨rfl, rfl⟩
      go_wp2_with fail
      refine (reserve (a0 - 3 * a1) (by omega) (by omega) _).mono ?_
      rintro e w' ⟨rfl, rfl⟩
      go_wp2_with fail
      refine (third a0 p0 p1 _).mono ?_
      rintro e w' ⟨rfl, rfl⟩
      go_wp2
      go_ret
      exact ⟨rfl, Grown.refl _⟩

/-! ### THE ROW's STEP: WRITTEN OUT: LEAVE IT -/
set_option maxRecDepth 100000 in
theorem lifted (os : Os) (started : os.Started) (H : Type) (enc : TypeId × Value → H) :
    ReturnsInHanded {} Trym.checked os 3 .any (Rows.fnReserveStepsOnePerThreeNsSpec.pre6 enc Trym.prog Trym.f3 Rows.fnReserveStepsOnePerThreeNsRow.domain false) (Rows.fnReserveStepsOnePerThreeNsSpec.post enc Trym.prog Trym.f3 false true false false) := by
  refine returnsInHanded_of_change (C := Trym.checked) own started (by kernel_rfl) Trym.func3
    (ChangeSpec.witness6 (enc := enc) (C := Trym.checked) false ⟨#[], #[.int .i64 0, .int .i64 0], []⟩ 8 (by kernel_rfl) (by kernel_rfl) (by kernel_rfl) (by kernel_rfl)) ?_
  intro W base args ds gs before hval0 hW hcnd _
  have hval : ∀ (j : Nat) t v, Trym.f3.params[j]? = some t → args[j]? = some v → Value.okWide Trym.prog W .any base t v := hval0
  have hW' := hW
  obtain ⟨p, q, hA0, hV, rfl, hfz, hnd⟩ := hW
  have hA : DataW.TrodAll enc Trym.prog W 0 (fun _ => true) true Trym.f3.params.toList args.toList ds p := hA0
  rw [Trym.params3] at hA hval
  obtain ⟨v0, vs0, d0, ds0, p0, q0, hargs, rfl, rfl, h0, r0⟩ := trodAll_cons hA
  obtain ⟨v1, vs1, d1, ds1, p1, q1, rfl, rfl, rfl, h1, r1⟩ := trodAll_cons r0
  obtain ⟨rfl, rfl, rfl⟩ := trodAll_nil r1
  obtain rfl : args = #[v0, v1] := by cases args; simp_all
  obtain ⟨rfl, rfl⟩ := trodVars_none hV
  obtain ⟨a0, rfl, rfl, rfl, w0⟩ := open_int Trym.underlying2 (hval 0 2 v0 rfl rfl) h0
  obtain ⟨a1, rfl, rfl, rfl, w1⟩ := open_int Trym.underlying2 (hval 1 2 v1 rfl rfl) h1
  clear hA0 hval0
  simp only [List.append_nil] at hW'
  refine (walk a0 a1 w0 w1 W).mono fun e W' ⟨he, hg⟩ => ?_
  subst he
  exact ⟨_, rfl, post_of_same (pa := []) (pv := []) hW' (fun _ _ _ => (trodAll_cons_mk (shut_bool Trym.underlying4 _) trodAll_mk0)) (fun sp _ => (trodAll_cons_mk (shut_int Trym.underlying2 w0) (trodAll_cons_mk (shut_int Trym.underlying2 w1) trodAll_mk0))) (fun _ _ => rfl) rfl
    (hg.frame _) hg.2.1 (ok_one (by kernel_rfl) rfl (okWide_bool_mk Trym.underlying4 _))⟩

theorem over : Rows.fnReserveStepsOnePerThreeNsRow.holds Trym.pinned (OpenSpec.ofChange Rows.fnReserveStepsOnePerThreeNsSpec) :=
  OpenClaim.holds_of_wide 3 Trym.f3 rfl rfl rfl rfl rfl rfl rfl ⟨rfl, rfl, rfl, rfl, rfl⟩ rfl rfl rfl rfl rfl (by kernel_rfl) Trym.func3 (by kernel_rfl)
    (of_decide_eq_true (by kernel_rfl)) (by unfold Func.isWrapper; first | (rw [if_pos (by decide +kernel)]; kernel_rfl) | (rw [if_neg (by decide +kernel)]; exact ⟨rfl, rfl⟩))
    (fun os started H enc _ => lifted os started H enc)

/-- ████ THE STATEMENT ████ -/
theorem proved : Rows.FnReserveStepsOnePerThreeNsSaid :=
  over
#print axioms proved
end Go.Proofs.Qxb6613050aMods.fnReserveStepsOnePerThreeNs
