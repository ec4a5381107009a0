/-
  THE PROOF OF 'Rows.FnBytesBelowIsBytewiseAtAnyCutSaid': the given shell (its frame as the program wrote it), the walk filled in.
-/
import Derived.Test.Qxb6612623aModsRows
import Derived.WalkKit
import Derived.ProofKit
import Derived.OpenShut
import Derived.ShutString
import Derived.Test.Qxb6612623aModsSteps
namespace Go.Proofs.Qxb6612623aMods.fnBytesBelowIsBytewiseAtAnyCut
open Go.ChangeShapes Go.WideShapes Go.ChangeAt Go.RowKit
open Go.ChangeMaps (open_string shut_string)
set_option linter.unusedVariables false      -- a walk need not use every 'w<i>' (that an integer argument fits its kind)

theorem own : ownKnob Trym.prog.godebug = none := by kernel_rfl

open Go.Proofs.Qxb6612623aMods.Plain Go.Proofs.Qxb6612623aMods.Steps

/-! ### THE PLAIN LAW in the walk's own words -/
/-- 'x & m', under a name. -/
def inI (a m : Int) : Int := ((a.toNat &&& m.toNat : Nat) : Int)
/-- 'x &^ m', under a name. -/
def outI (a m : Int) : Int := ((a.toNat &&& (18446744073709551615 - m.toNat) : Nat) : Int)
theorem in_eq (a m : Int) (h0 : 0 ≤ a) (h1 : a < 18446744073709551616) (m0 : 0 ≤ m) (m1 : m < 18446744073709551616) : bits BinOp.and IntKind.u64 a m = inI a m :=
  u64_and a m h0 h1 m0 m1
theorem out_eq (a m : Int) (h0 : 0 ≤ a) (h1 : a < 18446744073709551616) (m0 : 0 ≤ m) (m1 : m < 18446744073709551616) : bits BinOp.andNot IntKind.u64 a m = outI a m :=
  u64_andNot a m h0 h1 m0 m1
theorem in_bd (a m : Int) (h0 : 0 ≤ a) (h1 : a < 18446744073709551616) : 0 ≤ inI a m ∧ inI a m < 18446744073709551616 := by
  have : a.toNat &&& m.toNat ≤ a.toNat := Nat.and_le_left
  unfold inI; omega
theorem out_bd (a m : Int) (h0 : 0 ≤ a) (h1 : a < 18446744073709551616) : 0 ≤ outI a m ∧ outI a m < 18446744073709551616 := by
  have : a.toNat &&& (18446744073709551615 - m.toNat) ≤ a.toNat := Nat.and_le_left
  unfold outI; omega
theorem not_eq (m : Int) (m0 : 0 ≤ m) (m1 : m < 18446744073709551616) : bits BinOp.xor IntKind.u64 IntKind.u64.max m = 18446744073709551615 - m := by
  obtain ⟨m, rfl⟩ := Int.eq_ofNat_of_zero_le m0
  rw [max_u64, not_u64 m (by omega)]
  have e : 18446744073709551615 ^^^ m = 18446744073709551615 - m := by
    obtain ⟨l, hl, hb, rfl⟩ := bytes_of 8 m (by omega)
    have c3 : 18446744073709551615 = V (fun _ : Nat => 255) l := by rw [V_const 255 l hl]
    rw [V_compl _ l hl hb, c3, V_xor _ _ l (fun _ _ => by omega) hb]
    have hx : ∀ b < 256, 255 ^^^ b = 255 - b := by decide +kernel
    exact V_congr _ _ l (fun b h => hx b (hb b h))
  rw [e]
  omega

theorem eq_law (a n s : Int) (h0 : 0 ≤ a) (h1 : a < 18446744073709551616) (n0 : 1 ≤ n) (n1 : n ≤ 128) :
    (bbI a n == bits BinOp.or IntKind.u64 (bits BinOp.and IntKind.u64 (bbI (inI a (bmI s 8)) n) (bmI s 8)) (bits BinOp.andNot IntKind.u64 (bbI (outI a (bmI s 8)) n) (bmI s 8))) = true ∧
    (bits BinOp.and IntKind.u64 (bbI (outI a (bmI s 8)) n) (bmI s 8) == bits BinOp.and IntKind.u64 (bmI s 8) 9259542123273814144) = true ∧
    (bits BinOp.andNot IntKind.u64 (bbI (inI a (bmI s 8)) n) (bmI s 8) == bits BinOp.and IntKind.u64 (bits BinOp.xor IntKind.u64 IntKind.u64.max (bmI s 8)) 9259542123273814144) = true := by
  have hm := bmI_bd s 8 (by omega)
  obtain ⟨l1, l2, l3⟩ := law2 a.toNat n.toNat s.toNat (by omega) (by omega) (by omega)
  rw [not_eq _ hm.1 hm.2]
  have hm' : bmk s.toNat 8 < 18446744073709551616 := by unfold bmI at hm; omega
  have ec : (18446744073709551615 - bmI s 8) = ((18446744073709551615 - bmk s.toNat 8 : Nat) : Int) := by unfold bmI; omega
  rw [ec]
  unfold bbI inI outI bmI
  simp only [Int.toNat_natCast]
  have k1 : bb (a.toNat &&& bmk s.toNat 8) n.toNat &&& bmk s.toNat 8 < 18446744073709551616 := Nat.lt_of_le_of_lt Nat.and_le_right hm'
  have k2 : bb (a.toNat &&& (18446744073709551615 - bmk s.toNat 8)) n.toNat &&& (18446744073709551615 - bmk s.toNat 8) < 18446744073709551616 := Nat.lt_of_le_of_lt Nat.and_le_right (by omega)
  have g1 : bits BinOp.and IntKind.u64 ((bmk s.toNat 8 : Nat) : Int) 9259542123273814144 = ((bmk s.toNat 8 &&& 9259542123273814144 : Nat) : Int) := u64_and_nat _ 9259542123273814144 hm' (by omega)
  have g2 : bits BinOp.and IntKind.u64 ((18446744073709551615 - bmk s.toNat 8 : Nat) : Int) 9259542123273814144 = (((18446744073709551615 - bmk s.toNat 8) &&& 9259542123273814144 : Nat) : Int) := u64_and_nat _ 9259542123273814144 (by omega) (by omega)
  rw [g1, g2, u64_and_nat _ _ (bb_lt _ _) hm', u64_andNot_nat _ _ (bb_lt _ _) hm', u64_and_nat _ _ (bb_lt _ _) hm', u64_andNot_nat _ _ (bb_lt _ _) hm', u64_or_nat _ _ k1 k2, ← l1, l2, l3]
  simp

/-! ### STEP 1: THE WALK: the Go text returns true. 'Grown w w'': the world has at most new blocks (Derived/RowKit3.lean). Part the cases AHEAD of 'go_enter' where a test parts the walk; take each callee by a contract of your own. -/
theorem walk (a0 : Int) (a1 : Int) (a2 : Int) (w0 : (Lit.int .u64 a0).wf = true) (w1 : (Lit.int .u8 a1).wf = true) (w2 : (Lit.int .u8 a2).wf = true) (w : World) :
    Calls Trym.prog 4 #[.int .u64 a0, .int .u8 a1, .int .u8 a2] w fun e w' => e = .returned (.bool true) ∧ Grown w w' := by
  obtain ⟨p0, p1⟩ := bounds_u64 w0
  obtain ⟨q0, q1⟩ := bounds_u8 w1
  obtain ⟨s0, s1⟩ := bounds_u8 w2
  have p1' : a0 < 18446744073709551616 := by omega
  clear w0 w1 w2
  by_cases c1 : a1 < 1
  · go_enter Trym.func4, Trym.ntmps4
    go_wp2
    go_ret
    exact ⟨rfl, Grown.refl _⟩
  by_cases c2 : 128 < a1
  · go_enter Trym.func4, Trym.ntmps4
    go_wp2
    go_ret
    exact ⟨rfl, Grown.refl _⟩
  have hm := bmI_bd a2 8 (by omega)
  obtain ⟨e1, e2, e3⟩ := eq_law a0 a1 a2 p0 p1' (by omega) (by omega)
  have hi := in_eq a0 (bmI a2 8) p0 p1' hm.1 hm.2
  have ho := out_eq a0 (bmI a2 8) p0 p1' hm.1 hm.2
  have bi := in_bd a0 (bmI a2 8) p0 p1'
  have bo := out_bd a0 (bmI a2 8) p0 p1'
  go_enter Trym.func4, Trym.ntmps4
  go_wp2_with fail
  refine (byteMask a2 s0 s1 _).mono ?_
  rintro e w' ⟨rfl, rfl⟩
  go_wp2_with fail
  refine (zzbelow a0 a1 p0 p1' (by omega) (by omega) _).mono ?_
  rintro e w' ⟨rfl, rfl⟩
  go_wp2_with fail
  refine (zzbelow (inI a0 (bmI a2 8)) a1 bi.1 bi.2 (by omega) (by omega) _).mono ?_
  rintro e w' ⟨rfl, rfl⟩
  go_wp2_with fail
  refine (zzbelow (outI a0 (bmI a2 8)) a1 bo.1 bo.2 (by omega) (by omega) _).mono ?_
  rintro e w' ⟨rfl, rfl⟩
  go_wp2
  go_ret
  exact ⟨rfl, Grown.refl _⟩

/-! ### THE ROW's STEP: WRITTEN OUT: LEAVE IT -/
set_option maxRecDepth 100000 in
theorem lifted (os : Os) (started : os.Started) (H : Type) (enc : TypeId × Value → H) :
    ReturnsInHanded {} Trym.checked os 4 .any (Rows.fnBytesBelowIsBytewiseAtAnyCutSpec.pre6 enc Trym.prog Trym.f4 Rows.fnBytesBelowIsBytewiseAtAnyCutRow.domain false) (Rows.fnBytesBelowIsBytewiseAtAnyCutSpec.post enc Trym.prog Trym.f4 false true false false) := by
  refine returnsInHanded_of_change (C := Trym.checked) own started (by kernel_rfl) Trym.func4
    (ChangeSpec.witness6 (enc := enc) (C := Trym.checked) false ⟨#[], #[.int .u64 0, .int .u8 0, .int .u8 0], []⟩ 8 (by kernel_rfl) (by kernel_rfl) (by kernel_rfl) (by kernel_rfl)) ?_
  intro W base args ds gs before hval0 hW hcnd _
  have hval : ∀ (j : Nat) t v, Trym.f4.params[j]? = some t → args[j]? = some v → Value.okWide Trym.prog W .any base t v := hval0
  have hW' := hW
  obtain ⟨p, q, hA0, hV, rfl, hfz, hnd⟩ := hW
  have hA : DataW.TrodAll enc Trym.prog W 0 (fun _ => true) true Trym.f4.params.toList args.toList ds p := hA0
  rw [Trym.params4] at hA hval
  obtain ⟨v0, vs0, d0, ds0, p0, q0, hargs, rfl, rfl, h0, r0⟩ := trodAll_cons hA
  obtain ⟨v1, vs1, d1, ds1, p1, q1, rfl, rfl, rfl, h1, r1⟩ := trodAll_cons r0
  obtain ⟨v2, vs2, d2, ds2, p2, q2, rfl, rfl, rfl, h2, r2⟩ := trodAll_cons r1
  obtain ⟨rfl, rfl, rfl⟩ := trodAll_nil r2
  obtain rfl : args = #[v0, v1, v2] := by cases args; simp_all
  obtain ⟨rfl, rfl⟩ := trodVars_none hV
  obtain ⟨a0, rfl, rfl, rfl, w0⟩ := open_int Trym.underlying22 (hval 0 22 v0 rfl rfl) h0
  obtain ⟨a1, rfl, rfl, rfl, w1⟩ := open_int Trym.underlying5 (hval 1 5 v1 rfl rfl) h1
  obtain ⟨a2, rfl, rfl, rfl, w2⟩ := open_int Trym.underlying5 (hval 2 5 v2 rfl rfl) h2
  clear hA0 hval0
  simp only [List.append_nil] at hW'
  refine (walk a0 a1 a2 w0 w1 w2 W).mono fun e W' ⟨he, hg⟩ => ?_
  subst he
  exact ⟨_, rfl, post_of_same (pa := []) (pv := []) hW' (fun _ _ _ => (trodAll_cons_mk (shut_bool Trym.underlying4 _) trodAll_mk0)) (fun sp _ => (trodAll_cons_mk (shut_int Trym.underlying22 w0) (trodAll_cons_mk (shut_int Trym.underlying5 w1) (trodAll_cons_mk (shut_int Trym.underlying5 w2) trodAll_mk0)))) (fun _ _ => rfl) rfl
    (hg.frame _) hg.2.1 (ok_one (by kernel_rfl) rfl (okWide_bool_mk Trym.underlying4 _))⟩

theorem over : Rows.fnBytesBelowIsBytewiseAtAnyCutRow.holds Trym.pinned (OpenSpec.ofChange Rows.fnBytesBelowIsBytewiseAtAnyCutSpec) :=
  OpenClaim.holds_of_wide 4 Trym.f4 rfl rfl rfl rfl rfl rfl rfl ⟨rfl, rfl, rfl, rfl, rfl⟩ rfl rfl rfl rfl rfl (by kernel_rfl) Trym.func4 (by kernel_rfl)
    (of_decide_eq_true (by kernel_rfl)) (by unfold Func.isWrapper; first | (rw [if_pos (by decide +kernel)]; kernel_rfl) | (rw [if_neg (by decide +kernel)]; exact ⟨rfl, rfl⟩))
    (fun os started H enc _ => lifted os started H enc)

/-- ████ THE STATEMENT ████ -/
theorem proved : Rows.FnBytesBelowIsBytewiseAtAnyCutSaid :=
  over
#print axioms proved
end Go.Proofs.Qxb6612623aMods.fnBytesBelowIsBytewiseAtAnyCut
