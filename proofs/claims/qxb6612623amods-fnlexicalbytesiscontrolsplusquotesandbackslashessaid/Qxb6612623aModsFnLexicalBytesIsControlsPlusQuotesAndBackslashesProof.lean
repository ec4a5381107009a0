/-
  THE PROOF OF 'Rows.FnLexicalBytesIsControlsPlusQuotesAndBackslashesSaid': the given shell (its frame as the program wrote it), the walk filled in.
-/
import Derived.Test.Qxb6612623aModsRows
import Derived.WalkKit
import Derived.ProofKit
import Derived.OpenShut
import Derived.ShutString
import Derived.Test.Qxb6612623aModsSteps
namespace Go.Proofs.Qxb6612623aMods.fnLexicalBytesIsControlsPlusQuotesAndBackslashes
open Go.ChangeShapes Go.WideShapes Go.ChangeAt Go.RowKit
open Go.ChangeMaps (open_string shut_string)
set_option linter.unusedVariables false      -- a walk need not use every 'w<i>' (that an integer argument fits its kind)

theorem own : ownKnob Trym.prog.godebug = none := by kernel_rfl

open Go.Proofs.Qxb6612623aMods.Plain Go.Proofs.Qxb6612623aMods.Steps

/-! ### THE PLAIN LAW in the walk's own words -/
theorem eq_law (a : Int) (h0 : 0 ≤ a) (h1 : a < 18446744073709551616) :
    (bits BinOp.andNot IntKind.u64 (bbI a 32) (lexI a) == 0) = true ∧
    (bits BinOp.andNot IntKind.u64 (lexI a) (bbI a 32) == bits BinOp.or IntKind.u64 (eqI a 34 8) (eqI a 92 8)) = true := by
  obtain ⟨l1, l2⟩ := law3 a.toNat (by omega)
  have b1 := eqI_bd a 34 8 (by omega)
  have b2 := eqI_bd a 92 8 (by omega)
  unfold bbI lexI eqI at *
  rw [show (32 : Int).toNat = 32 from rfl]
  rw [show (34 : Int).toNat = 34 from rfl] at b1 ⊢
  rw [show (92 : Int).toNat = 92 from rfl] at b2 ⊢
  rw [u64_andNot_nat _ _ (bb_lt _ _) (lex_lt _), u64_andNot_nat _ _ (lex_lt _) (bb_lt _ _), u64_or_nat _ _ (by omega) (by omega), l1, l2]
  simp

/-! ### STEP 1: THE WALK: the Go text returns true. 'Grown w w'': the world has at most new blocks (Derived/RowKit3.lean). Part the cases AHEAD of 'go_enter' where a test parts the walk; take each callee by a contract of your own. -/
theorem walk (a0 : Int) (w0 : (Lit.int .u64 a0).wf = true) (w : World) :
    Calls Trym.prog 5 #[.int .u64 a0] w fun e w' => e = .returned (.bool true) ∧ Grown w w' := by
  obtain ⟨p0, p1⟩ := bounds_u64 w0
  have p1' : a0 < 18446744073709551616 := by omega
  clear w0
  obtain ⟨e1, e2⟩ := eq_law a0 p0 p1'
  go_enter Trym.func5, Trym.ntmps5
  go_wp2_with fail
  refine (zzbelow a0 32 p0 p1' (by omega) (by omega) _).mono ?_
  rintro e w' ⟨rfl, rfl⟩
  go_wp2_with fail
  refine (zzlexical a0 p0 p1' _).mono ?_
  rintro e w' ⟨rfl, rfl⟩
  go_wp2_with fail
  refine (eqMask a0 34 p0 p1' (by omega) (by omega) _).mono ?_
  rintro e w' ⟨rfl, rfl⟩
  go_wp2_with fail
  refine (eqMask a0 92 p0 p1' (by omega) (by omega) _).mono ?_
  rintro e w' ⟨rfl, rfl⟩
  go_wp2
  go_ret
  exact ⟨rfl, Grown.refl _⟩

/-! ### THE ROW's STEP: WRITTEN OUT: LEAVE IT -/
set_option maxRecDepth 100000 in
theorem lifted (os : Os) (started : os.Started) (H : Type) (enc : TypeId × Value → H) :
    ReturnsInHanded {} Trym.checked os 5 .any (Rows.fnLexicalBytesIsControlsPlusQuotesAndBackslashesSpec.pre6 enc Trym.prog Trym.f5 Rows.fnLexicalBytesIsControlsPlusQuotesAndBackslashesRow.domain false) (Rows.fnLexicalBytesIsControlsPlusQuotesAndBackslashesSpec.post enc Trym.prog Trym.f5 false true false false) := by
  refine returnsInHanded_of_change (C := Trym.checked) own started (by kernel_rfl) Trym.func5
    (ChangeSpec.witness6 (enc := enc) (C := Trym.checked) false ⟨#[], #[.int .u64 0], []⟩ 8 (by kernel_rfl) (by kernel_rfl) (by kernel_rfl) (by kernel_rfl)) ?_
  intro W base args ds gs before hval0 hW hcnd _
  have hval : ∀ (j : Nat) t v, Trym.f5.params[j]? = some t → args[j]? = some v → Value.okWide Trym.prog W .any base t v := hval0
  have hW' := hW
  obtain ⟨p, q, hA0, hV, rfl, hfz, hnd⟩ := hW
  have hA : DataW.TrodAll enc Trym.prog W 0 (fun _ => true) true Trym.f5.params.toList args.toList ds p := hA0
  rw [Trym.params5] at hA hval
  obtain ⟨v0, vs0, d0, ds0, p0, q0, hargs, rfl, rfl, h0, r0⟩ := trodAll_cons hA
  obtain ⟨rfl, rfl, rfl⟩ := trodAll_nil r0
  obtain rfl : args = #[v0] := by cases args; simp_all
  obtain ⟨rfl, rfl⟩ := trodVars_none hV
  obtain ⟨a0, rfl, rfl, rfl, w0⟩ := open_int Trym.underlying22 (hval 0 22 v0 rfl rfl) h0
  clear hA0 hval0
  simp only [List.append_nil] at hW'
  refine (walk a0 w0 W).mono fun e W' ⟨he, hg⟩ => ?_
  subst he
  exact ⟨_, rfl, post_of_same (pa := []) (pv := []) hW' (fun _ _ _ => (trodAll_cons_mk (shut_bool Trym.underlying4 _) trodAll_mk0)) (fun sp _ => (trodAll_cons_mk (shut_int Trym.underlying22 w0) trodAll_mk0)) (fun _ _ => rfl) rfl
    (hg.frame _) hg.2.1 (ok_one (by kernel_rfl) rfl (okWide_bool_mk Trym.underlying4 _))⟩

theorem over : Rows.fnLexicalBytesIsControlsPlusQuotesAndBackslashesRow.holds Trym.pinned (OpenSpec.ofChange Rows.fnLexicalBytesIsControlsPlusQuotesAndBackslashesSpec) :=
  OpenClaim.holds_of_wide 5 Trym.f5 rfl rfl rfl rfl rfl rfl rfl ⟨rfl, rfl, rfl, rfl, rfl⟩ rfl rfl rfl rfl rfl (by kernel_rfl) Trym.func5 (by kernel_rfl)
    (of_decide_eq_true (by kernel_rfl)) (by unfold Func.isWrapper; first | (rw [if_pos (by decide +kernel)]; kernel_rfl) | (rw [if_neg (by decide +kernel)]; exact ⟨rfl, rfl⟩))
    (fun os started H enc _ => lifted os started H enc)

/-- ████ THE STATEMENT ████ -/
theorem proved : Rows.FnLexicalBytesIsControlsPlusQuotesAndBackslashesSaid :=
  over
#print axioms proved
end Go.Proofs.Qxb6612623aMods.fnLexicalBytesIsControlsPlusQuotesAndBackslashes
