/-
  THE CONTRACTS of isBreak (f13), ZZisBreak (f9), isFlowIndicator (f14), ZZisFlowIndicator (f10).
-/
import Derived.Test.Qxb6613490aModsRows
import Derived.WalkKit
import Derived.WalkSpells
namespace Go.Proofs.Qxb6613490aMods.Steps
open Go.RowKit

/-- isBreak. -/
def brB (c : Int) : Bool := decide (c = 10 ∨ c = 13)
/-- isFlowIndicator. -/
def flB (c : Int) : Bool := decide (c = 44 ∨ c = 91 ∨ c = 93 ∨ c = 123 ∨ c = 125)

theorem ret_bool {a b : Bool} (h : a = b) : Ending.returned (.bool a) = .returned (.bool b) := by rw [h]

theorem isBreak (c : Int) (w : World) :
    Calls Trym.prog 13 #[.int .u8 c] w fun e w' => e = .returned (.bool (brB c)) ∧ w' = w := by
  by_cases h1 : c = 10
  · subst h1
    go_enter Trym.func13, Trym.ntmps13
    go_wp2
    go_ret
    exact ⟨rfl, rfl⟩
  · have h1' : (c == 10) = false := by simpa using h1
    have e : brB c = (c == 13) := by unfold brB; rw [Bool.eq_iff_iff]; simp [h1]
    go_enter Trym.func13, Trym.ntmps13
    go_wp2
    go_ret
    exact ⟨ret_bool e.symm, rfl⟩

theorem zzisBreak (c : Int) (w : World) :
    Calls Trym.prog 9 #[.int .u8 c] w fun e w' => e = .returned (.bool (brB c)) ∧ w' = w := by
  go_enter Trym.func9, Trym.ntmps9
  go_wp2_with (go_at_call 13; refine (isBreak c _).mono ?_; rintro e w' ⟨rfl, rfl⟩)
  go_ret
  exact ⟨rfl, rfl⟩

theorem isFlow_no (c : Int) (h : flB c = false) (w : World) :
    Calls Trym.prog 14 #[.int .i32 c] w fun e w' => e = .returned (.bool (flB c)) ∧ w' = w := by
  have h' : ¬ (c = 44 ∨ c = 91 ∨ c = 93 ∨ c = 123 ∨ c = 125) := of_decide_eq_false h
  have h1 : (c == 44) = false := by simp; omega
  have h2 : (c == 91) = false := by simp; omega
  have h3 : (c == 93) = false := by simp; omega
  have h4 : (c == 123) = false := by simp; omega
  have h5 : (c == 125) = false := by simp; omega
  rw [h]
  clear h h'
  go_enter Trym.func14, Trym.ntmps14
  go_wp2
  go_ret
  exact ⟨rfl, rfl⟩

theorem isFlow (c : Int) (w : World) :
    Calls Trym.prog 14 #[.int .i32 c] w fun e w' => e = .returned (.bool (flB c)) ∧ w' = w := by
  by_cases h : flB c = true
  · rcases of_decide_eq_true h with h1 | h1 | h1 | h1 | h1
    all_goals
      subst h1
      clear h
      go_enter Trym.func14, Trym.ntmps14
      go_wp2
      go_ret
      exact ⟨rfl, rfl⟩
  · exact isFlow_no c (by simpa using h) w

theorem zzisFlow (c : Int) (w : World) :
    Calls Trym.prog 10 #[.int .i32 c] w fun e w' => e = .returned (.bool (flB c)) ∧ w' = w := by
  go_enter Trym.func10, Trym.ntmps10
  go_wp2_with (go_at_call 14; refine (isFlow c _).mono ?_; rintro e w' ⟨rfl, rfl⟩)
  go_ret
  exact ⟨rfl, rfl⟩
end Go.Proofs.Qxb6613490aMods.Steps
