/-
  THE CONTRACTS of unicode/utf8.RuneCountInString (f15), unicode/utf8.RuneCount (f12) and yamltext.Place (f8), at a text of one byte.
-/
import Derived.Test.Qxb6613490aModsSteps
import Derived.Laws.BytesArg
import Derived.Laws.RangeAny
import Derived.LoopTactic
import Derived.RowKit3
namespace Go.Proofs.Qxb6613490aMods.Steps
open Go.RowKit

/-- The string of one byte. -/
def str1 (c : Int) : ByteArray := strOfNums [c]
theorem size1 (c : Int) : (str1 c).size = 1 := by unfold str1; rw [strOfNums_size]; rfl
theorem width1_nat : ∀ n : Nat, n < 256 → (Utf8.decode (str1 (n : Int)) 0).2 = 1 := by decide +kernel
theorem width1 (c : Int) (h0 : 0 ≤ c) (h1 : c ≤ 255) : (Utf8.decode (str1 c) 0).2 = 1 := by
  obtain ⟨n, rfl⟩ := Int.eq_ofNat_of_zero_le h0
  exact width1_nat n (by omega)

/-- One iterator more: nothing that was there turns. -/
theorem grown_iter (w : World) (s : ByteArray) (pos : Nat) : Grown w (w.iter s pos) := by
  refine ⟨World.keptBut_alloc _ _ _, fun a => ?_, by show w.heap.size ≤ (w.heap.push _).size; simp⟩
  by_cases h : a.block = w.heap.size
  · have e1 : (w.alloc (.stringIter s pos)).heap[a.block]? = some (.stringIter s pos) := by rw [h]; exact (MapKept.heap_alloc w _).1
    have e2 : w.heap[a.block]? = none := by rw [h]; simp
    simp [World.iter, World.frozen?, e1, e2]
  · exact World.frozen?_alloc_old _ _ _ h

set_option maxHeartbeats 400000 in
/-- unicode/utf8.RuneCountInString, of a string of one byte: 1. -/
theorem countString (c : Int) (h0 : 0 ≤ c) (h1 : c ≤ 255) (w : World) :
    Calls Trym.prog 15 #[.string (str1 c)] w fun e w' => e = .returned (.int .i64 1) ∧ ∃ pos, w' = w.iter (str1 c) pos := by
  have hz := size1 c
  have hw := width1 c h0 h1
  go_enter Trym.func15, Trym.ntmps15
  go_wp2
  go_loopw [2] (fun n w' => ∃ k : Nat, k ≤ 1 ∧ w' = w.iter (str1 c) k ∧ n = .int .i64 k) (fun _ w' => 1 - w'.iterPos w.heap.size)
  case atStart => exact ⟨0, by omega, rfl, rfl⟩
  case round =>
    obtain ⟨k, hk, rfl, rfl⟩ := hrel
    by_cases hp : k < 1
    · obtain rfl : k = 0 := by omega
      have hnx : ∀ ty, (Instr.next (.pointer (some ⟨w.heap.size, 0, none⟩)) true ty).run Trym.prog (w.iter (str1 c) 0) = _ := fun ty => run_next_any w (str1 c) 0 ty (by omega)
      go_wp2
      go_roundw
      case rel => exact ⟨1, by omega, rfl, by go_num⟩
      case measure => simp
    · obtain rfl : k = 1 := by omega
      have hnx : ∀ ty, (Instr.next (.pointer (some ⟨w.heap.size, 0, none⟩)) true ty).run Trym.prog (w.iter (str1 c) 1) = _ := fun ty => run_next_end w (str1 c) 1 ty (by omega)
      go_wp2
      go_ret
      exact ⟨rfl, _, rfl⟩

set_option maxHeartbeats 400000 in
/-- unicode/utf8.RuneCount, of one byte below 128: 1. -/
theorem count_low (c : Int) (h0 : 0 ≤ c) (h1 : c < 128) (b : Nat) (w : World) (hc : w.cell? ⟨b, 0, none⟩ = some (.int .u8 c)) :
    Calls Trym.prog 12 #[.slice (some ⟨b, 0, none⟩) 1 1] w fun e w' => e = .returned (.int .i64 1) ∧ Grown w w' := by
  go_enter Trym.func12, Trym.ntmps12
  go_wp2
  go_loop [4] (fun n => ∃ k : Nat, k ≤ 1 ∧ n = .int .i64 k) (fun n => 1 - (intOf n).toNat)
  case atStart => exact ⟨0, by omega, rfl⟩
  case round =>
    obtain ⟨k, hk, rfl⟩ := hrel
    by_cases hp : k < 1
    · obtain rfl : k = 0 := by omega
      go_wp2
      go_round
      case rel => exact ⟨1, by omega, by go_num⟩
      case measure => simp [intOf]
    · obtain rfl : k = 1 := by omega
      go_wp2
      go_ret
      exact ⟨rfl, Grown.refl _⟩

set_option maxHeartbeats 400000 in
/-- unicode/utf8.RuneCount, of one byte from 128 on: 1. -/
theorem count_high (c : Int) (h0 : 128 ≤ c) (h1 : c ≤ 255) (b : Nat) (w : World) (hc : w.cell? ⟨b, 0, none⟩ = some (.int .u8 c)) :
    Calls Trym.prog 12 #[.slice (some ⟨b, 0, none⟩) 1 1] w fun e w' => e = .returned (.int .i64 1) ∧ Grown w w' := by
  have hcv : (convert 26 9 (.slice (some ⟨b, 0, none⟩) 1 1)).run Trym.prog w = .ok (.string (str1 c)) w :=
    run_convert_bytes_arg w 26 5 Trym.underlying26 Trym.underlying5 b 0 1 1 [c] rfl (fun i hi => by
      have hi0 : i = 0 := by omega
      subst hi0
      exact hc) 9 Trym.underlying9
  go_enter Trym.func12, Trym.ntmps12
  go_wp2
  go_loop [4] (fun n => n = .int .i64 0) (fun _ => 0)
  case atStart => rfl
  case round =>
    obtain rfl := hrel
    go_wp2_with (go_at_call 15; refine (countString c (by omega) h1 _).mono ?_; rintro e w' ⟨rfl, pos, rfl⟩)
    go_ret
    exact ⟨rfl, grown_iter w (str1 c) pos⟩

set_option maxHeartbeats 400000 in
/-- unicode/utf8.RuneCount, of no byte: 0. -/
theorem count_none (a : Option Addr) (n : Nat) (w : World) :
    Calls Trym.prog 12 #[.slice a 0 n] w fun e w' => e = .returned (.int .i64 0) ∧ w' = w := by
  go_enter Trym.func12, Trym.ntmps12
  go_wp2
  go_loop [4] (fun n => n = .int .i64 0) (fun _ => 0)
  case atStart => rfl
  case round =>
    obtain rfl := hrel
    go_wp2
    go_ret
    exact ⟨rfl, rfl⟩

set_option maxHeartbeats 400000 in
/-- Place, of one carriage return. -/
theorem place_cr (b : Nat) (w : World) (hc : w.cell? ⟨b, 0, none⟩ = some (.int .u8 13)) :
    Calls Trym.prog 8 #[.slice (some ⟨b, 0, none⟩) 1 1, .int .i64 1] w fun e w' => e = .returned (.tuple #[.int .i64 2, .int .i64 1]) ∧ Grown w w' := by
  go_enter Trym.func8, Trym.ntmps8
  go_wp2
  go_loop [4, 6, 7] (fun l s i => ∃ k : Nat, k ≤ 1 ∧ i = .int .i64 k ∧ l = .int .i64 (k + 1) ∧ s = .int .i64 k) (fun _ _ i => 1 - (intOf i).toNat)
  case atStart => exact ⟨0, by omega, rfl, rfl, rfl⟩
  case round =>
    obtain ⟨k, hk, rfl, rfl, rfl⟩ := hrel
    by_cases hp : k < 1
    · obtain rfl : k = 0 := by omega
      go_wp2
      go_round
      case rel => exact ⟨1, by omega, by go_num, by go_num, by go_num⟩
      case measure => simp [intOf]
    · obtain rfl : k = 1 := by omega
      go_wp2_with (go_at_call 12; refine (count_none _ _ _).mono ?_; rintro e w' ⟨rfl, rfl⟩)
      go_ret2
      exact ⟨rfl, Grown.refl _⟩

set_option maxHeartbeats 400000 in
/-- Place, of one line feed. -/
theorem place_lf (b : Nat) (w : World) (hc : w.cell? ⟨b, 0, none⟩ = some (.int .u8 10)) :
    Calls Trym.prog 8 #[.slice (some ⟨b, 0, none⟩) 1 1, .int .i64 1] w fun e w' => e = .returned (.tuple #[.int .i64 2, .int .i64 1]) ∧ Grown w w' := by
  go_enter Trym.func8, Trym.ntmps8
  go_wp2
  go_loop [4, 6, 7] (fun l s i => ∃ k : Nat, k ≤ 1 ∧ i = .int .i64 k ∧ l = .int .i64 (k + 1) ∧ s = .int .i64 k) (fun _ _ i => 1 - (intOf i).toNat)
  case atStart => exact ⟨0, by omega, rfl, rfl, rfl⟩
  case round =>
    obtain ⟨k, hk, rfl, rfl, rfl⟩ := hrel
    by_cases hp : k < 1
    · obtain rfl : k = 0 := by omega
      go_wp2
      go_round
      case rel => exact ⟨1, by omega, by go_num, by go_num, by go_num⟩
      case measure => simp [intOf]
    · obtain rfl : k = 1 := by omega
      go_wp2_with (go_at_call 12; refine (count_none _ _ _).mono ?_; rintro e w' ⟨rfl, rfl⟩)
      go_ret2
      exact ⟨rfl, Grown.refl _⟩

theorem count_one (c : Int) (h0 : 0 ≤ c) (h1 : c ≤ 255) (b : Nat) (w : World) (hc : w.cell? ⟨b, 0, none⟩ = some (.int .u8 c)) :
    Calls Trym.prog 12 #[.slice (some ⟨b, 0, none⟩) 1 1] w fun e w' => e = .returned (.int .i64 1) ∧ Grown w w' := by
  by_cases h : c < 128
  · exact count_low c h0 h b w hc
  · exact count_high c (by omega) h1 b w hc

set_option maxHeartbeats 400000 in
/-- Place, of one byte that is no break. -/
theorem place_other (c : Int) (h0 : 0 ≤ c) (h1 : c ≤ 255) (hcr : (c == 13) = false) (hlf : (c == 10) = false) (b : Nat) (w : World) (hc : w.cell? ⟨b, 0, none⟩ = some (.int .u8 c)) :
    Calls Trym.prog 8 #[.slice (some ⟨b, 0, none⟩) 1 1, .int .i64 1] w fun e w' => e = .returned (.tuple #[.int .i64 1, .int .i64 2]) ∧ Grown w w' := by
  go_enter Trym.func8, Trym.ntmps8
  go_wp2
  go_loop [4, 6, 7] (fun l s i => ∃ k : Nat, k ≤ 1 ∧ i = .int .i64 k ∧ l = .int .i64 1 ∧ s = .int .i64 0) (fun _ _ i => 1 - (intOf i).toNat)
  case atStart => exact ⟨0, by omega, rfl, rfl, rfl⟩
  case round =>
    obtain ⟨k, hk, rfl, rfl, rfl⟩ := hrel
    by_cases hp : k < 1
    · obtain rfl : k = 0 := by omega
      go_wp2
      go_round
      case rel => exact ⟨1, by omega, by go_num, by go_num, by go_num⟩
      case measure => simp [intOf]
    · obtain rfl : k = 1 := by omega
      go_wp2_with (go_at_call 12; refine (count_one c h0 h1 b _ hc).mono ?_; rintro e w' ⟨rfl, hg⟩)
      go_ret2
      exact ⟨rfl, hg⟩

theorem grown_trans {a b c : World} (h1 : Grown a b) (h2 : Grown b c) : Grown a c :=
  ⟨World.keptBut_trans h1.1 h2.1, fun x => (h2.2.1 x).trans (h1.2.1 x), Nat.le_trans h1.2.2 h2.2.2⟩
end Go.Proofs.Qxb6613490aMods.Steps
