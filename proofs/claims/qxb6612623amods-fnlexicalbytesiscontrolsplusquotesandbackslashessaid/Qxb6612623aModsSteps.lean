/-
  THE CONTRACTS of the program's functions that the three laws call: each computes a plain function (Qxb6612623aModsPlain).
-/
import Derived.Test.Qxb6612623aModsRows
import Derived.Test.Qxb6612623aModsPlain
import Derived.WalkKit
import Derived.WalkSpells
namespace Go.Proofs.Qxb6612623aMods.Steps
open Go.RowKit
open Go.Proofs.Qxb6612623aMods.Plain

/-! ### The plain functions over Int, as the walk writes its numbers -/
def bbI (a n : Int) : Int := ((bb a.toNat n.toNat : Nat) : Int)
def eqI (a c : Int) (k : Nat) : Int := ((eqm a.toNat c.toNat k : Nat) : Int)
def bmI (s : Int) (k : Nat) : Int := ((bmk s.toNat k : Nat) : Int)
def lexI (a : Int) : Int := ((lex a.toNat : Nat) : Int)

theorem bbI_bd (a n : Int) : 0 ≤ bbI a n ∧ bbI a n < 18446744073709551616 := by
  have := bb_lt a.toNat n.toNat
  unfold bbI; omega
theorem pow8 (k : Nat) (hk : k ≤ 8) : 256 ^ k ≤ 18446744073709551616 := Nat.pow_le_pow_right (n := 256) (by omega) hk
theorem eqI_bd (a c : Int) (k : Nat) (hk : k ≤ 8) : 0 ≤ eqI a c k ∧ eqI a c k < 18446744073709551616 := by
  have := eqm_lt a.toNat c.toNat k hk
  have := pow8 k hk
  unfold eqI; omega
theorem bmI_bd (s : Int) (k : Nat) (hk : k ≤ 8) : 0 ≤ bmI s k ∧ bmI s k < 18446744073709551616 := by
  have := bmk_lt s.toNat k hk
  have := pow8 k hk
  unfold bmI; omega
theorem lexI_bd (a : Int) : 0 ≤ lexI a ∧ lexI a < 18446744073709551616 := by
  have := lex_lt a.toNat
  unfold lexI; omega

theorem ret_int {k : IntKind} {a b : Int} (h : a = b) : Ending.returned (.int k a) = .returned (.int k b) := by rw [h]

theorem max_u64 : IntKind.u64.max = 18446744073709551615 := by decide

theorem not_u64 (x : Nat) (hx : x < 18446744073709551616) : bits .xor .u64 18446744073709551615 (x : Int) = ((18446744073709551615 ^^^ x : Nat) : Int) :=
  u64_xor_nat 18446744073709551615 x (by omega) hx

/-- bytesBelow, as the walk spells it. -/
theorem bb_bits (a n : Int) (h0 : 0 ≤ a) (h1 : a < 18446744073709551616) (n0 : 1 ≤ n) (n1 : n ≤ 128) :
    bits BinOp.and IntKind.u64 (bits BinOp.xor IntKind.u64 IntKind.u64.max (bits BinOp.or IntKind.u64 (IntKind.u64.wrap (bits BinOp.and IntKind.u64 a 9187201950435737471 + (128 - n) * 72340172838076673)) a)) 9259542123273814144 = bbI a n := by
  obtain ⟨a, rfl⟩ := Int.eq_ofNat_of_zero_le h0
  obtain ⟨n, rfl⟩ := Int.eq_ofNat_of_zero_le (show 0 ≤ n by omega)
  have ha : a < 18446744073709551616 := by omega
  have hand : a &&& 9187201950435737471 ≤ 9187201950435737471 := Nat.and_le_right
  have e1 : bits BinOp.and IntKind.u64 (a : Int) 9187201950435737471 = ((a &&& 9187201950435737471 : Nat) : Int) := u64_and_nat a 9187201950435737471 ha (by omega)
  have e2 : IntKind.u64.wrap (((a &&& 9187201950435737471 : Nat) : Int) + (128 - (n : Int)) * 72340172838076673) = (((a &&& 9187201950435737471) + (128 - n) * 72340172838076673 : Nat) : Int) := by
    rw [IntKind.wrap_u64]; omega
  have hs : (a &&& 9187201950435737471) + (128 - n) * 72340172838076673 < 18446744073709551616 := by omega
  have ho : ((a &&& 9187201950435737471) + (128 - n) * 72340172838076673) ||| a < 18446744073709551616 := Nat.or_lt_two_pow (n := 64) hs ha
  have hx : 18446744073709551615 ^^^ (((a &&& 9187201950435737471) + (128 - n) * 72340172838076673) ||| a) < 18446744073709551616 := Nat.xor_lt_two_pow (n := 64) (by omega) ho
  rw [e1, e2, u64_or_nat _ _ hs ha, max_u64, not_u64 _ ho]
  exact u64_and_nat _ 9259542123273814144 hx (by omega)

set_option maxHeartbeats 400000 in
/-- bytesBelow. -/
theorem below (a n : Int) (h0 : 0 ≤ a) (h1 : a < 18446744073709551616) (n0 : 1 ≤ n) (n1 : n ≤ 128) (w : World) :
    Calls Trym.prog 11 #[.int .u64 a, .int .u8 n] w fun e w' => e = .returned (.int .u64 (bbI a n)) ∧ w' = w := by
  go_enter Trym.func11, Trym.ntmps11
  go_wp2
  go_ret
  exact ⟨ret_int (bb_bits a n h0 h1 n0 n1), rfl⟩

set_option maxHeartbeats 400000 in
/-- ZZbytesBelow. -/
theorem zzbelow (a n : Int) (h0 : 0 ≤ a) (h1 : a < 18446744073709551616) (n0 : 1 ≤ n) (n1 : n ≤ 128) (w : World) :
    Calls Trym.prog 7 #[.int .u64 a, .int .u8 n] w fun e w' => e = .returned (.int .u64 (bbI a n)) ∧ w' = w := by
  go_enter Trym.func7, Trym.ntmps7
  go_wp2_with (go_at_call 11; refine (below a n h0 h1 n0 n1 _).mono ?_; rintro e w' ⟨rfl, rfl⟩)
  go_ret
  exact ⟨rfl, rfl⟩

/-! ### eqMask -/
theorem byte_cast (a : Int) (k : Nat) (h0 : 0 ≤ a) : a / 2 ^ (8 * k) % 256 = ((a.toNat / 2 ^ (8 * k) % 256 : Nat) : Int) := by
  obtain ⟨a, rfl⟩ := Int.eq_ofNat_of_zero_le h0
  simp

theorem eqI_yes (a c : Int) (k : Nat) (hk : k < 8) (h0 : 0 ≤ a) (c0 : 0 ≤ c) (h : (a / 2 ^ (8 * k) % 256 == c) = true) :
    bits BinOp.or IntKind.u64 (eqI a c k) (IntKind.u64.wrap (128 * 2 ^ (8 * k))) = eqI a c (k + 1) := by
  have h' : a.toNat / 2 ^ (8 * k) % 256 = c.toNat := by
    rw [byte_cast a k h0] at h
    have := of_decide_eq_true h
    omega
  have hp : (128 * 2 ^ (8 * k) : Nat) < 18446744073709551616 := by
    have : (2 : Nat) ^ (8 * k) ≤ 2 ^ 56 := Nat.pow_le_pow_right (by omega) (by omega)
    omega
  have e1 : IntKind.u64.wrap (128 * 2 ^ (8 * k)) = ((128 * 2 ^ (8 * k) : Nat) : Int) := by
    rw [IntKind.wrap_u64]
    have : (128 * 2 ^ (8 * k) : Int) = ((128 * 2 ^ (8 * k) : Nat) : Int) := by simp
    rw [this]; omega
  have hb := eqI_bd a c k (by omega)
  unfold eqI at hb ⊢
  rw [e1, u64_or_nat _ _ (by omega) hp]
  simp only [eqm, if_pos h']

theorem eqI_no (a c : Int) (k : Nat) (h0 : 0 ≤ a) (c0 : 0 ≤ c) (h : (a / 2 ^ (8 * k) % 256 == c) = false) :
    eqI a c k = eqI a c (k + 1) := by
  have h' : ¬ a.toNat / 2 ^ (8 * k) % 256 = c.toNat := by
    rw [byte_cast a k h0] at h
    have := of_decide_eq_false h
    omega
  unfold eqI
  simp only [eqm, if_neg h']

set_option maxHeartbeats 400000 in
theorem eqMask (a c : Int) (h0 : 0 ≤ a) (_h1 : a < 18446744073709551616) (n0 : 0 ≤ c) (_n1 : c ≤ 255) (w : World) :
    Calls Trym.prog 8 #[.int .u64 a, .int .u8 c] w fun e w' => e = .returned (.int .u64 (eqI a c 8)) ∧ w' = w := by
  go_enter Trym.func8, Trym.ntmps8
  go_wp2
  go_loop [5, 6] (fun m i => ∃ k : Nat, k ≤ 8 ∧ i = .int .i64 k ∧ m = .int .u64 (eqI a c k)) (fun _ i => 8 - (intOf i).toNat)
  case atStart => exact ⟨0, Nat.zero_le _, rfl, rfl⟩
  case round =>
    obtain ⟨k, hk, rfl, rfl⟩ := hrel
    by_cases hlt : k < 8
    · go_wp2
      · go_round
        case rel => exact ⟨k + 1, by omega, by go_num, by rw [eqI_yes a c k hlt h0 n0 (by assumption)]⟩
        case measure => simp [intOf]; omega
      · go_round
        case rel => exact ⟨k + 1, by omega, by go_num, by rw [← eqI_no a c k h0 n0 (by assumption)]⟩
        case measure => simp [intOf]; omega
    · go_wp2
      go_ret
      obtain rfl : k = 8 := by omega
      exact ⟨rfl, rfl⟩

/-! ### byteMask -/
theorem bit_cast (s : Int) (k : Nat) (h0 : 0 ≤ s) (h1 : s ≤ 255) : bits BinOp.and IntKind.u8 (s / 2 ^ k) 1 = ((s.toNat / 2 ^ k &&& 1 : Nat) : Int) := by
  obtain ⟨s, rfl⟩ := Int.eq_ofNat_of_zero_le h0
  have e : ((s : Int) / 2 ^ k) = ((s / 2 ^ k : Nat) : Int) := by simp
  rw [e]
  exact u8_and_nat (s / 2 ^ k) 1 (Nat.lt_of_le_of_lt (Nat.div_le_self _ _) (by omega)) (by omega)

theorem bmI_yes (s : Int) (k : Nat) (hk : k < 8) (h0 : 0 ≤ s) (h1 : s ≤ 255) (h : (bits BinOp.and IntKind.u8 (s / 2 ^ k) 1 == 1) = true) :
    bits BinOp.or IntKind.u64 (bmI s k) (IntKind.u64.wrap (255 * 2 ^ (8 * k))) = bmI s (k + 1) := by
  have h' : s.toNat / 2 ^ k &&& 1 = 1 := by
    rw [bit_cast s k h0 h1] at h
    have := of_decide_eq_true h
    omega
  have hp : (255 * 2 ^ (8 * k) : Nat) < 18446744073709551616 := by
    have : (2 : Nat) ^ (8 * k) ≤ 2 ^ 56 := Nat.pow_le_pow_right (by omega) (by omega)
    omega
  have e1 : IntKind.u64.wrap (255 * 2 ^ (8 * k)) = ((255 * 2 ^ (8 * k) : Nat) : Int) := by
    rw [IntKind.wrap_u64]
    have : (255 * 2 ^ (8 * k) : Int) = ((255 * 2 ^ (8 * k) : Nat) : Int) := by simp
    rw [this]; omega
  have hb := bmI_bd s k (by omega)
  unfold bmI at hb ⊢
  rw [e1, u64_or_nat _ _ (by omega) hp]
  simp only [bmk, if_pos h']

theorem bmI_no (s : Int) (k : Nat) (h0 : 0 ≤ s) (h1 : s ≤ 255) (h : (bits BinOp.and IntKind.u8 (s / 2 ^ k) 1 == 1) = false) :
    bmI s k = bmI s (k + 1) := by
  have h' : ¬ s.toNat / 2 ^ k &&& 1 = 1 := by
    rw [bit_cast s k h0 h1] at h
    have := of_decide_eq_false h
    omega
  unfold bmI
  simp only [bmk, if_neg h']

set_option maxHeartbeats 400000 in
theorem byteMask (s : Int) (h0 : 0 ≤ s) (h1 : s ≤ 255) (w : World) :
    Calls Trym.prog 9 #[.int .u8 s] w fun e w' => e = .returned (.int .u64 (bmI s 8)) ∧ w' = w := by
  go_enter Trym.func9, Trym.ntmps9
  go_wp2
  go_loop [3, 4] (fun m i => ∃ k : Nat, k ≤ 8 ∧ i = .int .i64 k ∧ m = .int .u64 (bmI s k)) (fun _ i => 8 - (intOf i).toNat)
  case atStart => exact ⟨0, Nat.zero_le _, rfl, rfl⟩
  case round =>
    obtain ⟨k, hk, rfl, rfl⟩ := hrel
    by_cases hlt : k < 8
    · go_wp2
      · go_round
        case rel => exact ⟨k + 1, by omega, by go_num, by rw [bmI_yes s k hlt h0 h1 (by assumption)]⟩
        case measure => simp [intOf]; omega
      · go_round
        case rel => exact ⟨k + 1, by omega, by go_num, by rw [← bmI_no s k h0 h1 (by assumption)]⟩
        case measure => simp [intOf]; omega
    · go_wp2
      go_ret
      obtain rfl : k = 8 := by omega
      exact ⟨rfl, rfl⟩

/-! ### lexicalBytes -/
def xI (a c : Int) : Int := ((a.toNat ^^^ c.toNat : Nat) : Int)
theorem xI_eq (a c : Int) (h0 : 0 ≤ a) (h1 : a < 18446744073709551616) (c0 : 0 ≤ c) (c1 : c < 18446744073709551616) : bits BinOp.xor IntKind.u64 a c = xI a c :=
  u64_xor a c h0 h1 c0 c1
theorem xI_bd (a c : Int) (h0 : 0 ≤ a) (h1 : a < 18446744073709551616) (c0 : 0 ≤ c) (c1 : c < 18446744073709551616) : 0 ≤ xI a c ∧ xI a c < 18446744073709551616 := by
  have : a.toNat ^^^ c.toNat < 2 ^ 64 := Nat.xor_lt_two_pow (by omega) (by omega)
  unfold xI; omega
theorem lex_bits (a : Int) (_h0 : 0 ≤ a) :
    bits BinOp.or IntKind.u64 (bits BinOp.or IntKind.u64 (bbI (xI a 2459565876494606882) 1) (bbI (xI a 6655295901103053916) 1)) (bbI a 32) = lexI a := by
  unfold bbI lexI xI
  rw [u64_or_nat _ _ (bb_lt _ _) (bb_lt _ _), u64_or_nat _ _ (Nat.or_lt_two_pow (n := 64) (bb_lt _ _) (bb_lt _ _)) (bb_lt _ _)]
  rfl

set_option maxHeartbeats 400000 in
theorem lexical (a : Int) (h0 : 0 ≤ a) (h1 : a < 18446744073709551616) (w : World) :
    Calls Trym.prog 12 #[.int .u64 a] w fun e w' => e = .returned (.int .u64 (lexI a)) ∧ w' = w := by
  have e1 := xI_eq a 2459565876494606882 h0 h1 (by omega) (by omega)
  have e2 := xI_eq a 6655295901103053916 h0 h1 (by omega) (by omega)
  have b1 := xI_bd a 2459565876494606882 h0 h1 (by omega) (by omega)
  have b2 := xI_bd a 6655295901103053916 h0 h1 (by omega) (by omega)
  go_enter Trym.func12, Trym.ntmps12
  go_wp2_with fail
  refine (below _ 1 b1.1 b1.2 (by omega) (by omega) _).mono ?_
  rintro e w' ⟨rfl, rfl⟩
  go_wp2_with fail
  refine (below _ 1 b2.1 b2.2 (by omega) (by omega) _).mono ?_
  rintro e w' ⟨rfl, rfl⟩
  go_wp2_with fail
  refine (below _ 32 h0 h1 (by omega) (by omega) _).mono ?_
  rintro e w' ⟨rfl, rfl⟩
  go_wp2
  go_ret
  exact ⟨ret_int (lex_bits a h0), rfl⟩

theorem zzlexical (a : Int) (h0 : 0 ≤ a) (h1 : a < 18446744073709551616) (w : World) :
    Calls Trym.prog 10 #[.int .u64 a] w fun e w' => e = .returned (.int .u64 (lexI a)) ∧ w' = w := by
  go_enter Trym.func10, Trym.ntmps10
  go_wp2_with (go_at_call 12; refine (lexical a h0 h1 _).mono ?_; rintro e w' ⟨rfl, rfl⟩)
  go_ret
  exact ⟨rfl, rfl⟩
end Go.Proofs.Qxb6612623aMods.Steps
