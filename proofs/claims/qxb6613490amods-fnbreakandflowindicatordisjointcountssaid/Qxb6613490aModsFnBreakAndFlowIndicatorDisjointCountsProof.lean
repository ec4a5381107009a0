/-
  THE PROOF OF 'Rows.FnBreakAndFlowIndicatorDisjointCountsSaid': the given shell (its frame as the program wrote it), the walk filled in.
-/
import Derived.Test.Qxb6613490aModsRows
import Derived.WalkKit
import Derived.ProofKit
import Derived.OpenShut
import Derived.ShutString
import Derived.Test.Qxb6613490aModsSteps
namespace Go.Proofs.Qxb6613490aMods.fnBreakAndFlowIndicatorDisjointCounts
open Go.ChangeShapes Go.WideShapes Go.ChangeAt Go.RowKit
open Go.ChangeMaps (open_string shut_string)
set_option linter.unusedVariables false      -- a walk need not use every 'w<i>' (that an integer argument fits its kind)

theorem own : ownKnob Trym.prog.godebug = none := by kernel_rfl

open Go.Proofs.Qxb6613490aMods.Steps

/-! ### THE PLAIN LAW: the counts behind k rounds -/
def one (v : Nat) (k : Nat) : Int := if v < k then 1 else 0
def cntB (k : Nat) : Int := one 10 k + one 13 k
def cntF (k : Nat) : Int := one 44 k + one 91 k + one 93 k + one 123 k + one 125 k
theorem one_bd (v k : Nat) : 0 ≤ one v k ∧ one v k ≤ 1 := by unfold one; split <;> omega
theorem one_succ (v k : Nat) : one v (k + 1) = one v k + if k = v then 1 else 0 := by
  unfold one
  by_cases h : k = v
  · subst h; simp
  · by_cases h2 : v < k
    · rw [if_pos (show v < k + 1 by omega), if_pos h2, if_neg h]; rfl
    · rw [if_neg (show ¬ v < k + 1 by omega), if_neg h2, if_neg h]; rfl
theorem cntB_bd (k : Nat) : 0 ≤ cntB k ∧ cntB k ≤ 2 := by
  have := one_bd 10 k; have := one_bd 13 k
  unfold cntB; omega
theorem cntF_bd (k : Nat) : 0 ≤ cntF k ∧ cntF k ≤ 5 := by
  have := one_bd 44 k; have := one_bd 91 k; have := one_bd 93 k; have := one_bd 123 k; have := one_bd 125 k
  unfold cntF; omega
theorem cntB_yes (k : Nat) (h : brB k = true) : cntB k + 1 = cntB (k + 1) := by
  have h' := of_decide_eq_true h
  unfold cntB
  rw [one_succ, one_succ]
  rcases h' with h' | h'
  · obtain rfl : k = 10 := by omega
    rfl
  · obtain rfl : k = 13 := by omega
    rfl
theorem cntB_no (k : Nat) (h : brB k = false) : cntB k = cntB (k + 1) := by
  have h' := of_decide_eq_false h
  unfold cntB
  rw [one_succ, one_succ, if_neg (by omega), if_neg (by omega)]
  omega
theorem cntF_yes (k : Nat) (h : flB k = true) : cntF k + 1 = cntF (k + 1) := by
  have h' := of_decide_eq_true h
  unfold cntF
  rcases h' with h' | h' | h' | h' | h'
  · obtain rfl : k = 44 := by omega
    rfl
  · obtain rfl : k = 91 := by omega
    rfl
  · obtain rfl : k = 93 := by omega
    rfl
  · obtain rfl : k = 123 := by omega
    rfl
  · obtain rfl : k = 125 := by omega
    rfl
theorem cntF_no (k : Nat) (h : flB k = false) : cntF k = cntF (k + 1) := by
  have h' := of_decide_eq_false h
  unfold cntF
  rw [one_succ, one_succ, one_succ, one_succ, one_succ, if_neg (by omega), if_neg (by omega), if_neg (by omega), if_neg (by omega), if_neg (by omega)]
  omega
theorem br_small (c : Int) (h : brB c = true) : c < 32 ∧ flB c = false := by
  have h' := of_decide_eq_true h
  refine ⟨by omega, ?_⟩
  unfold flB
  simp
  omega
theorem fl_visible (c : Int) (h : flB c = true) : 32 < c ∧ c < 127 := by
  have h' := of_decide_eq_true h
  omega

/-! ### STEP 1: THE WALK: the Go text returns true. 'Grown w w'': the world has at most new blocks (Derived/RowKit3.lean). Part the cases AHEAD of 'go_enter' where a test parts the walk; take each callee by a contract of your own. -/
set_option maxRecDepth 100000 in
set_option maxHeartbeats 400000 in
theorem walk  (w : World) :
    Calls Trym.prog 5 #[] w fun e w' => e = .returned (.bool true) ∧ Grown w w' := by
  go_enter Trym.func5, Trym.ntmps5
  go_wp2
  go_loop [1, 2, 3] (fun b f i => ∃ k : Nat, k ≤ 256 ∧ i = .int .i64 k ∧ b = .int .i64 (cntB k) ∧ f = .int .i64 (cntF k)) (fun _ _ i => 256 - (intOf i).toNat)
  case atStart => exact ⟨0, Nat.zero_le _, rfl, rfl, rfl⟩
  case round =>
    obtain ⟨k, hk, rfl, rfl, rfl⟩ := hrel
    have bB := cntB_bd k
    have bF := cntF_bd k
    by_cases hlt : k < 256
    · by_cases hb : brB k = true
      · obtain ⟨hs, hf⟩ := br_small k hb
        have SB : Hid (cntB k + 1 = cntB (k + 1)) := cntB_yes k hb
        have SF : Hid (cntF k = cntF (k + 1)) := cntF_no k hf
        go_wp2_with (first | (go_at_call 9; refine (zzisBreak _ _).mono ?_; rintro e w' ⟨rfl, rfl⟩) | (go_at_call 10; refine (zzisFlow _ _).mono ?_; rintro e w' ⟨rfl, rfl⟩))
        go_round
        case rel => exact ⟨k + 1, by omega, by go_num, by rw [← SB.out], by rw [← SF.out]⟩
        case measure => simp [intOf]; omega
      · have hb' : brB k = false := by simpa using hb
        clear hb
        have SB : Hid (cntB k = cntB (k + 1)) := cntB_no k hb'
        by_cases hf : flB k = true
        · obtain ⟨v1, v2⟩ := fl_visible k hf
          have SF : Hid (cntF k + 1 = cntF (k + 1)) := cntF_yes k hf
          go_wp2_with (first | (go_at_call 9; refine (zzisBreak _ _).mono ?_; rintro e w' ⟨rfl, rfl⟩) | (go_at_call 10; refine (zzisFlow _ _).mono ?_; rintro e w' ⟨rfl, rfl⟩))
          go_round
          case rel => exact ⟨k + 1, by omega, by go_num, by rw [← SB.out], by rw [← SF.out]⟩
          case measure => simp [intOf]; omega
        · have hf' : flB k = false := by simpa using hf
          clear hf
          have SF : Hid (cntF k = cntF (k + 1)) := cntF_no k hf'
          go_wp2_with (first | (go_at_call 9; refine (zzisBreak _ _).mono ?_; rintro e w' ⟨rfl, rfl⟩) | (go_at_call 10; refine (zzisFlow _ _).mono ?_; rintro e w' ⟨rfl, rfl⟩))
          go_round
          case rel => exact ⟨k + 1, by omega, by go_num, by rw [← SB.out], by rw [← SF.out]⟩
          case measure => simp [intOf]; omega
    · obtain rfl : k = 256 := by omega
      have c1 : cntB 256 = 2 := rfl
      have c2 : cntF 256 = 5 := rfl
      go_wp2
      go_ret
      exact ⟨rfl, Grown.refl _⟩

/-! ### THE ROW's STEP: WRITTEN OUT: LEAVE IT -/
set_option maxRecDepth 100000 in
theorem lifted (os : Os) (started : os.Started) (H : Type) (enc : TypeId × Value → H) :
    ReturnsInHanded {} Trym.checked os 5 .any (Rows.fnBreakAndFlowIndicatorDisjointCountsSpec.pre6 enc Trym.prog Trym.f5 Rows.fnBreakAndFlowIndicatorDisjointCountsRow.domain false) (Rows.fnBreakAndFlowIndicatorDisjointCountsSpec.post enc Trym.prog Trym.f5 false true false false) := by
  refine returnsInHanded_of_change (C := Trym.checked) own started (by kernel_rfl) Trym.func5
    (ChangeSpec.witness6 (enc := enc) (C := Trym.checked) false ⟨#[], #[], []⟩ 8 (by kernel_rfl) (by kernel_rfl) (by kernel_rfl) (by kernel_rfl)) ?_
  intro W base args ds gs before hval0 hW hcnd _
  have hval : ∀ (j : Nat) t v, Trym.f5.params[j]? = some t → args[j]? = some v → Value.okWide Trym.prog W .any base t v := hval0
  have hW' := hW
  obtain ⟨p, q, hA0, hV, rfl, hfz, hnd⟩ := hW
  have hA : DataW.TrodAll enc Trym.prog W 0 (fun _ => true) true Trym.f5.params.toList args.toList ds p := hA0
  rw [Trym.params5] at hA hval
  obtain ⟨rfl, rfl, rfl⟩ := trodAll_none hA
  obtain ⟨rfl, rfl⟩ := trodVars_none hV
  clear hA0 hval0
  simp only [List.append_nil] at hW'
  refine (walk  W).mono fun e W' ⟨he, hg⟩ => ?_
  subst he
  exact ⟨_, rfl, post_of_same (pa := []) (pv := []) hW' (fun _ _ _ => (trodAll_cons_mk (shut_bool Trym.underlying4 _) trodAll_mk0)) (fun sp _ => rfl) (fun _ _ => rfl) rfl
    (hg.frame _) hg.2.1 (ok_one (by kernel_rfl) rfl (okWide_bool_mk Trym.underlying4 _))⟩

theorem over : Rows.fnBreakAndFlowIndicatorDisjointCountsRow.holds Trym.pinned (OpenSpec.ofChange Rows.fnBreakAndFlowIndicatorDisjointCountsSpec) :=
  OpenClaim.holds_of_wide 5 Trym.f5 rfl rfl rfl rfl rfl rfl rfl ⟨rfl, rfl, rfl, rfl, rfl⟩ rfl rfl rfl rfl rfl (by kernel_rfl) Trym.func5 (by kernel_rfl)
    (of_decide_eq_true (by kernel_rfl)) (by unfold Func.isWrapper; first | (rw [if_pos (by decide +kernel)]; kernel_rfl) | (rw [if_neg (by decide +kernel)]; exact ⟨rfl, rfl⟩))
    (fun os started H enc _ => lifted os started H enc)

/-- ████ THE STATEMENT ████ -/
theorem proved : Rows.FnBreakAndFlowIndicatorDisjointCountsSaid :=
  over
#print axioms proved
end Go.Proofs.Qxb6613490aMods.fnBreakAndFlowIndicatorDisjointCounts
