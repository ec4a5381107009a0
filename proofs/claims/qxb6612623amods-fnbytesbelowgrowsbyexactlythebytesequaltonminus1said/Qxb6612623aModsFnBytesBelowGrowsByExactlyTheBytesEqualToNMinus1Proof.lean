/-
  THE PROOF OF 'Rows.FnBytesBelowGrowsByExactlyTheBytesEqualToNMinus1Said': the given shell (its frame as the program wrote it), the walk filled in.
-/
import Derived.Test.Qxb6612623aModsRows
import Derived.WalkKit
import Derived.ProofKit
import Derived.OpenShut
import Derived.ShutString
import Derived.Test.Qxb6612623aModsSteps
namespace Go.Proofs.Qxb6612623aMods.fnBytesBelowGrowsByExactlyTheBytesEqualToNMinus1
open Go.ChangeShapes Go.WideShapes Go.ChangeAt Go.RowKit
open Go.ChangeMaps (open_string shut_string)
set_option linter.unusedVariables false      -- a walk need not use every 'w<i>' (that an integer argument fits its kind)

theorem own : ownKnob Trym.prog.godebug = none := by kernel_rfl

open Go.Proofs.Qxb6612623aMods.Plain Go.Proofs.Qxb6612623aMods.Steps

/-! ### THE PLAIN LAW in the walk's own words -/
theorem eq_law (a n : Int) (h0 : 0 ≤ a) (h1 : a < 18446744073709551616) (n0 : 2 ≤ n) (n1 : n ≤ 128) :
    (bbI a n == bits BinOp.or IntKind.u64 (bbI a (n - 1)) (eqI a (n - 1) 8)) = true ∧ (bits BinOp.and IntKind.u64 (bbI a (n - 1)) (eqI a (n - 1) 8) == 0) = true := by
  have hb := bbI_bd a (n - 1)
  have he := eqI_bd a (n - 1) 8 (by omega)
  have law := law1 a.toNat n.toNat (by omega) (by omega) (by omega)
  have en : (n - 1).toNat = n.toNat - 1 := by omega
  unfold bbI eqI at *
  rw [en] at hb he ⊢
  rw [u64_or_nat _ _ (by omega) (by omega), u64_and_nat _ _ (by omega) (by omega), ← law.1, law.2]
  simp

theorem eq_law_one (a : Int) (h0 : 0 ≤ a) (h1 : a < 18446744073709551616) :
    (bbI a 1 == bits BinOp.or IntKind.u64 0 (eqI a 0 8)) = true ∧ (bits BinOp.and IntKind.u64 0 (eqI a 0 8) == 0) = true := by
  have he := eqI_bd a 0 8 (by omega)
  have law := law1_one a.toNat (by omega)
  have e1 : bits BinOp.or IntKind.u64 0 (eqI a 0 8) = eqI a 0 8 := by
    unfold eqI at *
    exact (u64_or_nat 0 _ (by omega) (by omega)).trans (by simp)
  have e2 : bits BinOp.and IntKind.u64 0 (eqI a 0 8) = 0 := by
    unfold eqI at *
    exact (u64_and_nat 0 _ (by omega) (by omega)).trans (by simp)
  rw [e1, e2]
  unfold bbI eqI
  rw [show (1 : Int).toNat = 1 from rfl, show (0 : Int).toNat = 0 from rfl, law]
  simp

/-! ### STEP 1: THE WALK: the Go text returns true. 'Grown w w'': the world has at most new blocks (Derived/RowKit3.lean). Part the cases AHEAD of 'go_enter' where a test parts the walk; take each callee by a contract of your own. -/
theorem walk (a0 : Int) (a1 : Int) (w0 : (Lit.int .u64 a0).wf = true) (w1 : (Lit.int .u8 a1).wf = true) (w : World) :
    Calls Trym.prog 3 #[.int .u64 a0, .int .u8 a1] w fun e w' => e = .returned (.bool true) ∧ Grown w w' := by
  obtain ⟨p0, p1⟩ := bounds_u64 w0
  obtain ⟨q0, q1⟩ := bounds_u8 w1
  have p1' : a0 < 18446744073709551616 := by omega
  clear w0 w1
  by_cases c1 : a1 < 1
  · go_enter Trym.func3, Trym.ntmps3
    go_wp2
    go_ret
    exact ⟨rfl, Grown.refl _⟩
  by_cases c2 : 128 < a1
  · go_enter Trym.func3, Trym.ntmps3
    go_wp2
    go_ret
    exact ⟨rfl, Grown.refl _⟩
  by_cases c3 : 1 < a1
  · obtain ⟨e1, e2⟩ := eq_law a0 a1 p0 p1' (by omega) (by omega)
    go_enter Trym.func3, Trym.ntmps3
    go_wp2_with fail
    refine (zzbelow a0 a1 p0 p1' (by omega) (by omega) _).mono ?_
    rintro e w' ⟨rfl, rfl⟩
    go_wp2_with fail
    refine (zzbelow a0 (a1 - 1) p0 p1' (by omega) (by omega) _).mono ?_
    rintro e w' ⟨rfl, rfl⟩
    go_wp2_with fail
    refine (eqMask a0 (a1 - 1) p0 p1' (by omega) (by omega) _).mono ?_
    rintro e w' ⟨rfl, rfl⟩
    go_wp2
    go_ret
    exact ⟨rfl, Grown.refl _⟩
  · obtain rfl : a1 = 1 := by omega
    obtain ⟨e1, e2⟩ := eq_law_one a0 p0 p1'
    go_enter Trym.func3, Trym.ntmps3
    go_wp2_with fail
    refine (zzbelow a0 1 p0 p1' (by omega) (by omega) _).mono ?_
    rintro e w' ⟨rfl, rfl⟩
    go_wp2_with fail
    refine (eqMask a0 0 p0 p1' (by omega) (by omega) _).mono ?_
    rintro e w' ⟨rfl, rfl⟩
    go_wp2
    go_ret
    exact ⟨rfl, Grown.refl _⟩

/-! ### THE ROW's STEP: WRITTEN OUT: LEAVE IT -/
set_option maxRecDepth 100000 in
theorem lifted (os : Os) (started : os.Started) (H : Type) (enc : TypeId × Value → H) :
    ReturnsInHanded {} Trym.checked os 3 .any (Rows.fnBytesBelowGrowsByExactlyTheBytesEqualToNMinus1Spec.pre6 enc Trym.prog Trym.f3 Rows.fnBytesBelowGrowsByExactlyTheBytesEqualToNMinus1Row.domain false) (Rows.fnBytesBelowGrowsByExactlyTheBytesEqualToNMinus1Spec.post enc Trym.prog Trym.f3 false true false false) := by
  refine returnsInHanded_of_change (C := Trym.checked) own started (by kernel_rfl) Trym.func3
    (ChangeSpec.witness6 (enc := enc) (C := Trym.checked) false ⟨#[], #[.int .u64 0, .int .u8 0], []⟩ 8 (by kernel_rfl) (by kernel_rfl) (by kernel_rfl) (by kernel_rfl)) ?_
  intro W base args ds gs before hval0 hW hcnd _
  have hval : ∀ (j : Nat) t v, Trym.f3.params[j]? = some t → args[j]? = some v → Value.okWide Trym.prog W .any base t v := hval0
  have hW' := hW
  obtain ⟨p, q, hA0, hV, rfl, hfz, hnd⟩ := hW
  have hA : DataW.TrodAll enc Trym.prog W 0 (fun _ => true) true Trym.f3.params.toList args.toList ds p := hA0
  rw [Trym.params3] at hA hval
  obtain ⟨v0, vs0, d0, ds0, p0, q0, hargs, rfl, rfl, h0, r0⟩ := trodAll_cons hA
  obtain ⟨v1, vs1, d1, ds1, p1, q1, rfl, rfl, rfl, h1, r1⟩ := trodAll_cons r0
  obtain ⟨rfl, rfl, rfl⟩ := trodAll_nil r1
  obtain rfl : args = #[v0, v1] := by cases args; simp_all
  obtain ⟨rfl, rfl⟩ := trodVars_none hV
  obtain ⟨a0, rfl, rfl, rfl, w0⟩ := open_int Trym.underlying22 (hval 0 22 v0 rfl rfl) h0
  obtain ⟨a1, rfl, rfl, rfl, w1⟩ := open_int Trym.underlying5 (hval 1 5 v1 rfl rfl) h1
  clear hA0 hval0
  simp only [List.append_nil] at hW'
  refine (walk a0 a1 w0 w1 W).mono fun e W' ⟨he, hg⟩ => ?_
  subst he
  exact ⟨_, rfl, post_of_same (pa := []) (pv := []) hW' (fun _ _ _ => (trodAll_cons_mk (shut_bool Trym.underlying4 _) trodAll_mk0)) (fun sp _ => (trodAll_cons_mk (shut_int Trym.underlying22 w0) (trodAll_cons_mk (shut_int Trym.underlying5 w1) trodAll_mk0))) (fun _ _ => rfl) rfl
    (hg.frame _) hg.2.1 (ok_one (by kernel_rfl) rfl (okWide_bool_mk Trym.underlying4 _))⟩

theorem over : Rows.fnBytesBelowGrowsByExactlyTheBytesEqualToNMinus1Row.holds Trym.pinned (OpenSpec.ofChange Rows.fnBytesBelowGrowsByExactlyTheBytesEqualToNMinus1Spec) :=
  OpenClaim.holds_of_wide 3 Trym.f3 rfl rfl rfl rfl rfl rfl rfl ⟨rfl, rfl, rfl, rfl, rfl⟩ rfl rfl rfl rfl rfl (by kernel_rfl) Trym.func3 (by kernel_rfl)
    (of_decide_eq_true (by kernel_rfl)) (by unfold Func.isWrapper; first | (rw [if_pos (by decide +kernel)]; kernel_rfl) | (rw [if_neg (by decide +kernel)]; exact ⟨rfl, rfl⟩))
    (fun os started H enc _ => lifted os started H enc)

/-- ████ THE STATEMENT ████ -/
theorem proved : Rows.FnBytesBelowGrowsByExactlyTheBytesEqualToNMinus1Said :=
  over
#print axioms proved
end Go.Proofs.Qxb6612623aMods.fnBytesBelowGrowsByExactlyTheBytesEqualToNMinus1
