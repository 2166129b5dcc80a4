/-
  THE WALKS OF THE TWO LAWS ON bitSize: the kinds 2 to 15 one by one; every other int by one walk in which every test says no. Own work on this program.
-/
import Derived.Test.Qxb6604311aRows
import Derived.WalkKit
namespace Go.Proofs.Qxb6604311a.Bs
open Go.RowKit

theorem ne_of (k n : Int) (h : k ≠ n) : (k == n) = false := by rw [beq_eq_false_iff_ne]; exact h

set_option maxHeartbeats 1000000 in
theorem range_any (k : Int) (w : World) : Calls Try.prog 4 #[.int .i64 k] w fun e w' => e = .returned (.bool true) ∧ w' = w := by
  by_cases h : 2 ≤ k ∧ k ≤ 15
  · have h15 : k = 2 ∨ k = 3 ∨ k = 4 ∨ k = 5 ∨ k = 6 ∨ k = 7 ∨ k = 8 ∨ k = 9 ∨ k = 10 ∨ k = 11 ∨ k = 12 ∨ k = 13 ∨ k = 14 ∨ k = 15 := by omega
    clear h
    rcases h15 with rfl | rfl | rfl | rfl | rfl | rfl | rfl | rfl | rfl | rfl | rfl | rfl | rfl | rfl
    all_goals
      go_enter Try.func4, Try.ntmps4
      go_wp2
      go_ret
      exact ⟨rfl, rfl⟩
  · have e2 := ne_of k 2 (by omega)
    have e3 := ne_of k 3 (by omega)
    have e4 := ne_of k 4 (by omega)
    have e7 := ne_of k 7 (by omega)
    have e8 := ne_of k 8 (by omega)
    have e9 := ne_of k 9 (by omega)
    have e12 := ne_of k 12 (by omega)
    have e15 := ne_of k 15 (by omega)
    clear h
    go_enter Try.func4, Try.ntmps4
    go_wp2
    go_ret
    exact ⟨rfl, rfl⟩

set_option maxHeartbeats 1000000 in
theorem model_any (k : Int) (w : World) : Calls Try.prog 3 #[.int .i64 k] w fun e w' => e = .returned (.bool true) ∧ w' = w := by
  by_cases h : 2 ≤ k ∧ k ≤ 15
  · have h15 : k = 2 ∨ k = 3 ∨ k = 4 ∨ k = 5 ∨ k = 6 ∨ k = 7 ∨ k = 8 ∨ k = 9 ∨ k = 10 ∨ k = 11 ∨ k = 12 ∨ k = 13 ∨ k = 14 ∨ k = 15 := by omega
    clear h
    rcases h15 with rfl | rfl | rfl | rfl | rfl | rfl | rfl | rfl | rfl | rfl | rfl | rfl | rfl | rfl
    all_goals
      go_enter Try.func3, Try.ntmps3
      go_wp2
      go_ret
      exact ⟨rfl, rfl⟩
  · have e2 := ne_of k 2 (by omega)
    have e3 := ne_of k 3 (by omega)
    have e4 := ne_of k 4 (by omega)
    have e7 := ne_of k 7 (by omega)
    have e8 := ne_of k 8 (by omega)
    have e9 := ne_of k 9 (by omega)
    have e12 := ne_of k 12 (by omega)
    have e14 := ne_of k 14 (by omega)
    have e15 := ne_of k 15 (by omega)
    have hh : k < 2 ∨ 15 < k := by omega
    clear h
    rcases hh with h | h
    · have d2 : decide (2 ≤ k) = false := by rw [decide_eq_false_iff_not]; omega
      have d7 : decide (7 ≤ k) = false := by rw [decide_eq_false_iff_not]; omega
      go_enter Try.func3, Try.ntmps3
      go_wp2
      go_ret
      exact ⟨rfl, rfl⟩
    · have d2 : decide (2 ≤ k) = true := by rw [decide_eq_true_iff]; omega
      have d7 : decide (7 ≤ k) = true := by rw [decide_eq_true_iff]; omega
      have d5 : decide (k ≤ 5) = false := by rw [decide_eq_false_iff_not]; omega
      have d10 : decide (k ≤ 10) = false := by rw [decide_eq_false_iff_not]; omega
      go_enter Try.func3, Try.ntmps3
      go_wp2
      go_ret
      exact ⟨rfl, rfl⟩

end Go.Proofs.Qxb6604311a.Bs
