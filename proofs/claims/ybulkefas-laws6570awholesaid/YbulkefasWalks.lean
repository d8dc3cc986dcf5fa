/- The callees' contracts of LawS6570AWhole. -/
import Derived.Test.YbulkefasRows
import Derived.WalkKit
import Derived.Handy
import Derived.Deep.Light
namespace Go.Proofs.Ybulkefas.Cal
open Go.RowKit
set_option linter.unusedVariables false

/-- The length of month m of year y. -/
def dim (y m : Int) : Int :=
  if m = 2 then (if y % 4 = 0 ∧ (y % 100 ≠ 0 ∨ y % 400 = 0) then 29 else 28) else if m = 4 ∨ m = 6 ∨ m = 9 ∨ m = 11 then 30 else 31

theorem dim_bd (y m : Int) : 28 ≤ dim y m ∧ dim y m ≤ 31 := by
  unfold dim; split
  · split <;> omega
  · split <;> omega

theorem dim_12 (y : Int) : dim y 12 = 31 := by simp [dim]

theorem ret_int {k : IntKind} {a b : Int} (h : a = b) : Ending.returned (.int k a) = .returned (.int k b) := by rw [h]

set_option maxHeartbeats 400000 in
theorem month_any (d : Int) (w : World) (h0 : 0 ≤ d) (h1 : d ≤ 2000000000) :
    Calls Yba.prog 6 #[.int .i32 d] w fun e w' => e = .returned (.int .i64 (d / 100 % 100)) ∧ w' = w := by
  go_enter Yba.func6, Yba.ntmps6
  go_wp2
  go_ret
  exact ⟨rfl, rfl⟩

set_option maxHeartbeats 400000 in
theorem year_any (d : Int) (w : World) (h0 : 0 ≤ d) (h1 : d ≤ 2000000000) :
    Calls Yba.prog 7 #[.int .i32 d] w fun e w' => e = .returned (.int .i64 (d / 10000)) ∧ w' = w := by
  go_enter Yba.func7, Yba.ntmps7
  go_wp2
  go_ret
  exact ⟨rfl, rfl⟩

set_option maxHeartbeats 400000 in
theorem day_any (d : Int) (w : World) (h0 : 0 ≤ d) (h1 : d ≤ 2000000000) :
    Calls Yba.prog 8 #[.int .i32 d] w fun e w' => e = .returned (.int .i64 (d % 100)) ∧ w' = w := by
  go_enter Yba.func8, Yba.ntmps8
  go_wp2
  go_ret
  exact ⟨rfl, rfl⟩

theorem dim_is {y m r : Int} (h : (m = 2 ∧ y % 4 = 0 ∧ (y % 100 ≠ 0 ∨ y % 400 = 0) ∧ r = 29) ∨ (m = 2 ∧ ¬ (y % 4 = 0 ∧ (y % 100 ≠ 0 ∨ y % 400 = 0)) ∧ r = 28) ∨ (m ≠ 2 ∧ (m = 4 ∨ m = 6 ∨ m = 9 ∨ m = 11) ∧ r = 30) ∨ (m ≠ 2 ∧ ¬ (m = 4 ∨ m = 6 ∨ m = 9 ∨ m = 11) ∧ r = 31)) : r = dim y m := by
  unfold dim
  rcases h with ⟨a, b, c, d⟩ | ⟨a, b, d⟩ | ⟨a, b, d⟩ | ⟨a, b, d⟩
  · rw [if_pos a, if_pos ⟨b, c⟩, d]
  · rw [if_pos a, if_neg b, d]
  · rw [if_neg a, if_pos b, d]
  · rw [if_neg a, if_neg b, d]

theorem b_t {a b : Int} (h : (a == b) = true) : a = b := by simpa using h
theorem b_f {a b : Int} (h : (a == b) = false) : a ≠ b := by simpa using h

set_option maxHeartbeats 1000000 in
theorem daysIn_any (y m : Int) (w : World) (h0 : 0 ≤ y) (h1 : y ≤ 1000000000000000) (m0 : 0 ≤ m) (m1 : m ≤ 13) :
    Calls Yba.prog 9 #[.int .i64 y, .int .i64 m] w fun e w' => e = .returned (.int .i64 (dim y m)) ∧ w' = w := by
  go_enter Yba.func9, Yba.ntmps9
  go_wp2
  all_goals
    go_ret
    go_light
    simp only [beq_iff_eq, beq_eq_false_iff_ne] at *
    refine ⟨ret_int (dim_is ?_), trivial⟩
    omega

set_option maxHeartbeats 1000000 in
theorem adim_any (y m : Int) (w : World) (h0 : 0 ≤ y) (h1 : y ≤ 1000000000000000) (m0 : 1 ≤ m) (m1 : m ≤ 12) :
    Calls Yba.prog 5 #[.int .i64 y, .int .i64 m] w fun e w' => e = .returned (.int .i64 (dim y m)) ∧ ∃ c t, w' = w.alloc (.cells c t) := by
  have hm : m = 1 ∨ m = 2 ∨ m = 3 ∨ m = 4 ∨ m = 5 ∨ m = 6 ∨ m = 7 ∨ m = 8 ∨ m = 9 ∨ m = 10 ∨ m = 11 ∨ m = 12 := by omega
  rcases hm with rfl | rfl | rfl | rfl | rfl | rfl | rfl | rfl | rfl | rfl | rfl | rfl
  all_goals
    go_enter Yba.func5, Yba.ntmps5
    go_wp2
  all_goals
    go_ret
    go_light
    simp only [beq_iff_eq, beq_eq_false_iff_ne, bne_iff_ne, bne_eq_false_iff_eq] at *
    refine ⟨ret_int (dim_is ?_), _, _, rfl⟩
    omega

set_option maxHeartbeats 1000000 in
theorem new_no (y m d : Int) (w : World) (h0 : 0 ≤ y) (h1 : y ≤ 1000000000000000) (m0 : 0 ≤ m) (m1 : m ≤ 13) (h : y = 0 ∨ 9999 < y ∨ d = 0) :
    Calls Yba.prog 10 #[.int .i64 y, .int .i64 m, .int .i64 d] w fun e w' => e = .returned (.tuple #[.int .i32 0, .bool false]) ∧ w' = w := by
  go_enter Yba.func10, Yba.ntmps10
  go_wp2_with (go_at_call 9; refine (daysIn_any _ _ _ (by omega) (by omega) (by omega) (by omega)).mono ?_; rintro e w' ⟨rfl, rfl⟩)
  all_goals
    go_ret2
    exact ⟨rfl, rfl⟩

set_option maxHeartbeats 1000000 in
theorem new_yes (y m d : Int) (w : World) (h0 : 1 ≤ y) (h1 : y ≤ 9999) (m0 : 1 ≤ m) (m1 : m ≤ 12) (d0 : 1 ≤ d) (d1 : d ≤ dim y m) :
    Calls Yba.prog 10 #[.int .i64 y, .int .i64 m, .int .i64 d] w fun e w' => e = .returned (.tuple #[.int .i32 (y * 10000 + m * 100 + d), .bool true]) ∧ w' = w := by
  have hd := dim_bd y m
  go_enter Yba.func10, Yba.ntmps10
  go_wp2_with (go_at_call 9; refine (daysIn_any _ _ _ (by omega) (by omega) (by omega) (by omega)).mono ?_; rintro e w' ⟨rfl, rfl⟩)
  all_goals
    go_ret2
    exact ⟨rfl, rfl⟩

end Go.Proofs.Ybulkefas.Cal
