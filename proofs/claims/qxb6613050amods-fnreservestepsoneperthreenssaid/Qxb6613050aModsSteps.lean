/-
  THE CONTRACTS of the functions that the two laws call: reserve (f7), ZZreserve (f5), zzThirdTowardZero (f6).
-/
import Derived.Test.Qxb6613050aModsRows
import Derived.WalkKit
import Derived.WalkSpells
namespace Go.Proofs.Qxb6613050aMods.Steps
open Go.RowKit

/-- A third, truncated toward zero. -/
def thr (x : Int) : Int := x.tdiv 3

theorem thr_pos (x : Int) (h : 0 ≤ x) : 0 ≤ thr x ∧ 0 ≤ x - 3 * thr x ∧ x - 3 * thr x ≤ 2 := by
  unfold thr
  rw [Int.tdiv_eq_ediv_of_nonneg h]
  omega
theorem thr_neg (x : Int) : thr (-x) = - thr x := by
  unfold thr
  exact Int.neg_tdiv x 3
theorem thr_npos (x : Int) (h : x ≤ 0) : thr x ≤ 0 ∧ x - 3 * thr x ≤ 0 ∧ -2 ≤ x - 3 * thr x := by
  have h1 := thr_pos (-x) (by omega)
  rw [thr_neg] at h1
  omega
theorem thr_bd (x : Int) (h0 : -9223372036854775808 ≤ x) (h1 : x ≤ 9223372036854775807) : -3074457345618258602 ≤ thr x ∧ thr x ≤ 3074457345618258602 := by
  rcases Int.le_total 0 x with h | h
  · have := thr_pos x h; omega
  · have := thr_npos x h; omega

theorem ret_int {k : IntKind} {a b : Int} (h : a = b) : Ending.returned (.int k a) = .returned (.int k b) := by rw [h]

theorem thr_walk (x : Int) (h0 : -9223372036854775808 ≤ x) (h1 : x ≤ 9223372036854775807) (w : World) :
    Calls Trym.prog 7 #[.int .i64 x] w fun e w' => e = .returned (.int .i64 (thr x)) ∧ w' = w := by
  go_enter Trym.func7, Trym.ntmps7
  go_wp2
  go_ret
  exact ⟨ret_int (by unfold thr; rfl), rfl⟩

theorem reserve (x : Int) (h0 : -9223372036854775808 ≤ x) (h1 : x ≤ 9223372036854775807) (w : World) :
    Calls Trym.prog 5 #[.int .i64 x] w fun e w' => e = .returned (.int .i64 (thr x)) ∧ w' = w := by
  go_enter Trym.func5, Trym.ntmps5
  go_wp2_with (go_at_call 7; refine (thr_walk x h0 h1 _).mono ?_; rintro e w' ⟨rfl, rfl⟩)
  go_ret
  exact ⟨rfl, rfl⟩

/-- zzThirdTowardZero, of a third: true. -/
theorem third_pos (x r : Int) (h0 : 0 ≤ x) (_h1 : x ≤ 9223372036854775807) (r0 : 0 ≤ r) (r1 : r ≤ 3074457345618258602) (d0 : 0 ≤ x - 3 * r) (d1 : x - 3 * r ≤ 2) (w : World) :
    Calls Trym.prog 6 #[.int .i64 x, .int .i64 r] w fun e w' => e = .returned (.bool true) ∧ w' = w := by
  go_enter Trym.func6, Trym.ntmps6
  go_wp2
  go_ret
  exact ⟨rfl, rfl⟩
theorem third_neg (x r : Int) (h0 : -9223372036854775808 ≤ x) (h1 : x < 0) (r0 : r ≤ 0) (r1 : -3074457345618258602 ≤ r) (d0 : x - 3 * r ≤ 0) (d1 : -2 ≤ x - 3 * r) (w : World) :
    Calls Trym.prog 6 #[.int .i64 x, .int .i64 r] w fun e w' => e = .returned (.bool true) ∧ w' = w := by
  go_enter Trym.func6, Trym.ntmps6
  go_wp2
  go_ret
  exact ⟨rfl, rfl⟩
theorem third (x : Int) (h0 : -9223372036854775808 ≤ x) (h1 : x ≤ 9223372036854775807) (w : World) :
    Calls Trym.prog 6 #[.int .i64 x, .int .i64 (thr x)] w fun e w' => e = .returned (.bool true) ∧ w' = w := by
  have hb := thr_bd x h0 h1
  by_cases h : 0 ≤ x
  · have ht := thr_pos x h
    exact third_pos x (thr x) h h1 ht.1 hb.2 ht.2.1 ht.2.2 w
  · have ht := thr_npos x (by omega)
    exact third_neg x (thr x) h0 (by omega) ht.1 hb.1 ht.2.1 ht.2.2 w
end Go.Proofs.Qxb6613050aMods.Steps
