/-
  THE PROOF OF 'Rows.FnIsBreakAgreesWithPlaceSaid': the given shell (its frame as the program wrote it), the walk filled in.
-/
import Derived.Test.Qxb6613490aModsRows
import Derived.WalkKit
import Derived.ProofKit
import Derived.OpenShut
import Derived.ShutString
import Derived.Test.Qxb6613490aModsPlace
namespace Go.Proofs.Qxb6613490aMods.fnIsBreakAgreesWithPlace
open Go.ChangeShapes Go.WideShapes Go.ChangeAt Go.RowKit
open Go.ChangeMaps (open_string shut_string)
set_option linter.unusedVariables false      -- a walk need not use every 'w<i>' (that an integer argument fits its kind)

theorem own : ownKnob Trym.prog.godebug = none := by kernel_rfl

open Go.Proofs.Qxb6613490aMods.Steps

/-! ### STEP 1: THE WALK: the Go text returns true. 'Grown w w'': the world has at most new blocks (Derived/RowKit3.lean). Part the cases AHEAD of 'go_enter' where a test parts the walk; take each callee by a contract of your own. -/
theorem walk (a0 : Int) (w0 : (Lit.int .u8 a0).wf = true) (w : World) :
    Calls Trym.prog 4 #[.int .u8 a0] w fun e w' => e = .returned (.bool true) ∧ Grown w w' := by
  obtain ⟨p0, p1⟩ := bounds_u8 w0
  clear w0
  by_cases c1 : a0 = 13
  · subst c1
    have hb : brB 13 = true := rfl
    go_enter Trym.func4, Trym.ntmps4
    go_wp2_with fail
    refine (place_cr _ _ ?_).mono ?_
    · simp [go_sem]
    rintro e w' ⟨rfl, hg⟩
    go_wp2_with fail
    refine (zzisBreak _ _).mono ?_
    rintro e w' ⟨rfl, rfl⟩
    go_wp2
    go_ret
    exact ⟨rfl, grown_trans ((Grown.refl _).alloc _ _) hg⟩
  by_cases c2 : a0 = 10
  · subst c2
    have hb : brB 10 = true := rfl
    clear c1
    go_enter Trym.func4, Trym.ntmps4
    go_wp2_with fail
    refine (place_lf _ _ ?_).mono ?_
    · simp [go_sem]
    rintro e w' ⟨rfl, hg⟩
    go_wp2_with fail
    refine (zzisBreak _ _).mono ?_
    rintro e w' ⟨rfl, rfl⟩
    go_wp2
    go_ret
    exact ⟨rfl, grown_trans ((Grown.refl _).alloc _ _) hg⟩
  · have hcr : (a0 == 13) = false := by simpa using c1
    have hlf : (a0 == 10) = false := by simpa using c2
    have hb : brB a0 = false := by unfold brB; simp [c1, c2]
    clear c1 c2
    go_enter Trym.func4, Trym.ntmps4
    go_wp2_with fail
    refine (place_other a0 p0 p1 hcr hlf _ _ ?_).mono ?_
    · simp [go_sem]
    rintro e w' ⟨rfl, hg⟩
    go_wp2_with fail
    refine (zzisBreak _ _).mono ?_
    rintro e w' ⟨rfl, rfl⟩
    go_wp2
    go_ret
    exact ⟨rfl, grown_trans ((Grown.refl _).alloc _ _) hg⟩

/-! ### THE ROW's STEP: WRITTEN OUT: LEAVE IT -/
set_option maxRecDepth 100000 in
theorem lifted (os : Os) (started : os.Started) (H : Type) (enc : TypeId × Value → H) :
    ReturnsInHanded {} Trym.checked os 4 .any (Rows.fnIsBreakAgreesWithPlaceSpec.pre6 enc Trym.prog Trym.f4 Rows.fnIsBreakAgreesWithPlaceRow.domain false) (Rows.fnIsBreakAgreesWithPlaceSpec.post enc Trym.prog Trym.f4 false true false false) := by
  refine returnsInHanded_of_change (C := Trym.checked) own started (by kernel_rfl) Trym.func4
    (ChangeSpec.witness6 (enc := enc) (C := Trym.checked) false ⟨#[], #[.int .u8 0], []⟩ 8 (by kernel_rfl) (by kernel_rfl) (by kernel_rfl) (by kernel_rfl)) ?_
  intro W base args ds gs before hval0 hW hcnd _
  have hval : ∀ (j : Nat) t v, Trym.f4.params[j]? = some t → args[j]? = some v → Value.okWide Trym.prog W .any base t v := hval0
  have hW' := hW
  obtain ⟨p, q, hA0, hV, rfl, hfz, hnd⟩ := hW
  have hA : DataW.TrodAll enc Trym.prog W 0 (fun _ => true) true Trym.f4.params.toList args.toList ds p := hA0
  rw [Trym.params4] at hA hval
  obtain ⟨v0, vs0, d0, ds0, p0, q0, hargs, rfl, rfl, h0, r0⟩ := trodAll_cons hA
  obtain ⟨rfl, rfl, rfl⟩ := trodAll_nil r0
  obtain rfl : args = #[v0] := by cases args; simp_all
  obtain ⟨rfl, rfl⟩ := trodVars_none hV
  obtain ⟨a0, rfl, rfl, rfl, w0⟩ := open_int Trym.underlying5 (hval 0 5 v0 rfl rfl) h0
  clear hA0 hval0
  simp only [List.append_nil] at hW'
  refine (walk a0 w0 W).mono fun e W' ⟨he, hg⟩ => ?_
  subst he
  exact ⟨_, rfl, post_of_same (pa := []) (pv := []) hW' (fun _ _ _ => (trodAll_cons_mk (shut_bool Trym.underlying4 _) trodAll_mk0)) (fun sp _ => (trodAll_cons_mk (shut_int Trym.underlying5 w0) trodAll_mk0)) (fun _ _ => rfl) rfl
    (hg.frame _) hg.2.1 (ok_one (by kernel_rfl) rfl (okWide_bool_mk Trym.underlying4 _))⟩

theorem over : Rows.fnIsBreakAgreesWithPlaceRow.holds Trym.pinned (OpenSpec.ofChange Rows.fnIsBreakAgreesWithPlaceSpec) :=
  OpenClaim.holds_of_wide 4 Trym.f4 rfl rfl rfl rfl rfl rfl rfl ⟨rfl, rfl, rfl, rfl, rfl⟩ rfl rfl rfl rfl rfl (by kernel_rfl) Trym.func4 (by kernel_rfl)
    (of_decide_eq_true (by kernel_rfl)) (by unfold Func.isWrapper; first | (rw [if_pos (by decide +kernel)]; kernel_rfl) | (rw [if_neg (by decide +kernel)]; exact ⟨rfl, rfl⟩))
    (fun os started H enc _ => lifted os started H enc)

/-- ████ THE STATEMENT ████ -/
theorem proved : Rows.FnIsBreakAgreesWithPlaceSaid :=
  over
#print axioms proved
end Go.Proofs.Qxb6613490aMods.fnIsBreakAgreesWithPlace
