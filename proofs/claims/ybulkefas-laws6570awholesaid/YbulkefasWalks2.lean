/- AddMonths. -/
import Derived.Test.YbulkefasWalks
namespace Go.Proofs.Ybulkefas.Cal
open Go.RowKit

/-- AddMonths at the date that is none. -/
theorem add_zero (n : Int) (w : World) (n0 : 0 ≤ n) (n1 : n ≤ 1099511627776) :
    Calls Yba.prog 4 #[.int .i32 0, .int .i64 n] w fun e w' => e = .returned (.tuple #[.int .i32 0, .bool false]) ∧ w' = w := by
  by_cases hn : n = 0
  · subst hn
    go_enter Yba.func4, Yba.ntmps4
    go_wp2
    go_ret2
    exact ⟨rfl, rfl⟩
  · have hd := dim_bd ((-1 + n) / 12) ((-1 + n) % 12 + 1)
    go_enter Yba.func4, Yba.ntmps4
    go_wp2_with (first | (go_at_call 6; refine (month_any _ _ (by omega) (by omega)).mono ?_; rintro e w' ⟨rfl, rfl⟩) | (go_at_call 7; refine (year_any _ _ (by omega) (by omega)).mono ?_; rintro e w' ⟨rfl, rfl⟩) | (go_at_call 8; refine (day_any _ _ (by omega) (by omega)).mono ?_; rintro e w' ⟨rfl, rfl⟩) | (go_at_call 9; refine (daysIn_any _ _ _ (by omega) (by omega) (by omega) (by omega)).mono ?_; rintro e w' ⟨rfl, rfl⟩) | (go_at_call 10; refine (new_no _ _ _ _ (by omega) (by omega) (by omega) (by omega) (by omega)).mono ?_; rintro e w' ⟨rfl, rfl⟩))
    go_ret2
    exact ⟨rfl, rfl⟩

set_option maxHeartbeats 400000 in
theorem add_past (D n : Int) (w : World) (n0 : 0 ≤ n) (n1 : n ≤ 1099511627776) (y0 : 1 ≤ D / 10000) (y1 : D / 10000 ≤ 9999) (m0 : 1 ≤ D / 100 % 100) (m1 : D / 100 % 100 ≤ 12) (d0 : 1 ≤ D % 100) (d1 : D % 100 ≤ 31) (hy : 9999 < D / 10000 + (D / 100 % 100 - 1 + n) / 12) :
    Calls Yba.prog 4 #[.int .i32 D, .int .i64 n] w fun e w' => e = .returned (.tuple #[.int .i32 0, .bool false]) ∧ w' = w := by
  go_enter Yba.func4, Yba.ntmps4
  go_wp2_with (first | (go_at_call 6; refine (month_any _ _ (by omega) (by omega)).mono ?_; rintro e w' ⟨rfl, rfl⟩) | (go_at_call 7; refine (year_any _ _ (by omega) (by omega)).mono ?_; rintro e w' ⟨rfl, rfl⟩) | (go_at_call 8; refine (day_any _ _ (by omega) (by omega)).mono ?_; rintro e w' ⟨rfl, rfl⟩) | (go_at_call 9; refine (daysIn_any _ _ _ (by omega) (by omega) (by omega) (by omega)).mono ?_; rintro e w' ⟨rfl, rfl⟩) | (go_at_call 10; refine (new_no _ _ _ _ (by omega) (by omega) (by omega) (by omega) (by omega)).mono ?_; rintro e w' ⟨rfl, rfl⟩))
  all_goals
    go_ret2
    exact ⟨rfl, rfl⟩

set_option maxHeartbeats 400000 in
theorem add_keep (D n : Int) (w : World) (n0 : 0 ≤ n) (n1 : n ≤ 1099511627776) (y0 : 1 ≤ D / 10000) (y1 : D / 10000 ≤ 9999) (m0 : 1 ≤ D / 100 % 100) (m1 : D / 100 % 100 ≤ 12) (d0 : 1 ≤ D % 100) (d1 : D % 100 ≤ 31) (hy : D / 10000 + (D / 100 % 100 - 1 + n) / 12 ≤ 9999) (hd : D % 100 ≤ dim (D / 10000 + (D / 100 % 100 - 1 + n) / 12) ((D / 100 % 100 - 1 + n) % 12 + 1)) :
    Calls Yba.prog 4 #[.int .i32 D, .int .i64 n] w fun e w' => e = .returned (.tuple #[.int .i32 ((D / 10000 + (D / 100 % 100 - 1 + n) / 12) * 10000 + ((D / 100 % 100 - 1 + n) % 12 + 1) * 100 + D % 100), .bool true]) ∧ w' = w := by
  go_enter Yba.func4, Yba.ntmps4
  go_wp2_with (first | (go_at_call 6; refine (month_any _ _ (by omega) (by omega)).mono ?_; rintro e w' ⟨rfl, rfl⟩) | (go_at_call 7; refine (year_any _ _ (by omega) (by omega)).mono ?_; rintro e w' ⟨rfl, rfl⟩) | (go_at_call 8; refine (day_any _ _ (by omega) (by omega)).mono ?_; rintro e w' ⟨rfl, rfl⟩) | (go_at_call 9; refine (daysIn_any _ _ _ (by omega) (by omega) (by omega) (by omega)).mono ?_; rintro e w' ⟨rfl, rfl⟩) | (go_at_call 10; refine (new_yes _ _ _ _ (by omega) (by omega) (by omega) (by omega) (by omega) (by first | exact hd | (have := dim_bd (D / 10000 + (D / 100 % 100 - 1 + n) / 12) ((D / 100 % 100 - 1 + n) % 12 + 1 + 1); omega))).mono ?_; rintro e w' ⟨rfl, rfl⟩))
  all_goals
    go_ret2
    exact ⟨rfl, rfl⟩

set_option maxHeartbeats 400000 in
theorem add_next (D n : Int) (w : World) (n0 : 0 ≤ n) (n1 : n ≤ 1099511627776) (y0 : 1 ≤ D / 10000) (y1 : D / 10000 ≤ 9999) (m0 : 1 ≤ D / 100 % 100) (m1 : D / 100 % 100 ≤ 12) (d0 : 1 ≤ D % 100) (d1 : D % 100 ≤ 31) (hy : D / 10000 + (D / 100 % 100 - 1 + n) / 12 ≤ 9999) (hd : dim (D / 10000 + (D / 100 % 100 - 1 + n) / 12) ((D / 100 % 100 - 1 + n) % 12 + 1) < D % 100) (hm : (D / 100 % 100 - 1 + n) % 12 + 1 ≤ 11) :
    Calls Yba.prog 4 #[.int .i32 D, .int .i64 n] w fun e w' => e = .returned (.tuple #[.int .i32 ((D / 10000 + (D / 100 % 100 - 1 + n) / 12) * 10000 + ((D / 100 % 100 - 1 + n) % 12 + 1 + 1) * 100 + 1), .bool true]) ∧ w' = w := by
  go_enter Yba.func4, Yba.ntmps4
  go_wp2_with (first | (go_at_call 6; refine (month_any _ _ (by omega) (by omega)).mono ?_; rintro e w' ⟨rfl, rfl⟩) | (go_at_call 7; refine (year_any _ _ (by omega) (by omega)).mono ?_; rintro e w' ⟨rfl, rfl⟩) | (go_at_call 8; refine (day_any _ _ (by omega) (by omega)).mono ?_; rintro e w' ⟨rfl, rfl⟩) | (go_at_call 9; refine (daysIn_any _ _ _ (by omega) (by omega) (by omega) (by omega)).mono ?_; rintro e w' ⟨rfl, rfl⟩) | (go_at_call 10; refine (new_yes _ _ _ _ (by omega) (by omega) (by omega) (by omega) (by omega) (by first | exact hd | (have := dim_bd (D / 10000 + (D / 100 % 100 - 1 + n) / 12) ((D / 100 % 100 - 1 + n) % 12 + 1 + 1); omega))).mono ?_; rintro e w' ⟨rfl, rfl⟩))
  all_goals
    go_ret2
    exact ⟨rfl, rfl⟩

theorem parts (y m d n : Int) (m0 : 1 ≤ m) (m1 : m ≤ 12) (d0 : 1 ≤ d) (d1 : d ≤ 31) :
    (y * 10000 + m * 100 + d) / 10000 = y ∧ (y * 10000 + m * 100 + d) / 100 % 100 = m ∧ (y * 10000 + m * 100 + d) % 100 = d ∧ y + (m - 1 + n) / 12 = (y * 12 + (m - 1) + n) / 12 ∧ (m - 1 + n) % 12 + 1 = (y * 12 + (m - 1) + n) % 12 + 1 := by
  omega

theorem past (y m d n : Int) (w : World) (n0 : 0 ≤ n) (n1 : n ≤ 1099511627776) (y0 : 1 ≤ y) (y1 : y ≤ 9999) (m0 : 1 ≤ m) (m1 : m ≤ 12) (d0 : 1 ≤ d) (d1 : d ≤ 31) (hy : 9999 < (y * 12 + (m - 1) + n) / 12) :
    Calls Yba.prog 4 #[.int .i32 (y * 10000 + m * 100 + d), .int .i64 n] w fun e w' => e = .returned (.tuple #[.int .i32 0, .bool false]) ∧ w' = w := by
  obtain ⟨e1, e2, e3, e4, e5⟩ := parts y m d n m0 m1 d0 d1
  exact add_past _ n w n0 n1 (by rw [e1]; exact y0) (by rw [e1]; exact y1) (by rw [e2]; exact m0) (by rw [e2]; exact m1) (by rw [e3]; exact d0) (by rw [e3]; exact d1) (by rw [e1, e2, e4]; exact hy)

theorem keep (y m d n : Int) (w : World) (n0 : 0 ≤ n) (n1 : n ≤ 1099511627776) (y0 : 1 ≤ y) (y1 : y ≤ 9999) (m0 : 1 ≤ m) (m1 : m ≤ 12) (d0 : 1 ≤ d) (d1 : d ≤ 31) (hy : (y * 12 + (m - 1) + n) / 12 ≤ 9999) (hd : d ≤ dim ((y * 12 + (m - 1) + n) / 12) ((y * 12 + (m - 1) + n) % 12 + 1)) :
    Calls Yba.prog 4 #[.int .i32 (y * 10000 + m * 100 + d), .int .i64 n] w fun e w' => e = .returned (.tuple #[.int .i32 ((y * 12 + (m - 1) + n) / 12 * 10000 + ((y * 12 + (m - 1) + n) % 12 + 1) * 100 + d), .bool true]) ∧ w' = w := by
  obtain ⟨e1, e2, e3, e4, e5⟩ := parts y m d n m0 m1 d0 d1
  have h := add_keep (y * 10000 + m * 100 + d) n w n0 n1 (by rw [e1]; exact y0) (by rw [e1]; exact y1) (by rw [e2]; exact m0) (by rw [e2]; exact m1) (by rw [e3]; exact d0) (by rw [e3]; exact d1) (by rw [e1, e2, e4]; exact hy) (by rw [e1, e2, e3, e4, e5]; exact hd)
  rw [e1, e2, e3, e4, e5] at h
  exact h

theorem next (y m d n : Int) (w : World) (n0 : 0 ≤ n) (n1 : n ≤ 1099511627776) (y0 : 1 ≤ y) (y1 : y ≤ 9999) (m0 : 1 ≤ m) (m1 : m ≤ 12) (d0 : 1 ≤ d) (d1 : d ≤ 31) (hy : (y * 12 + (m - 1) + n) / 12 ≤ 9999) (hd : dim ((y * 12 + (m - 1) + n) / 12) ((y * 12 + (m - 1) + n) % 12 + 1) < d) :
    Calls Yba.prog 4 #[.int .i32 (y * 10000 + m * 100 + d), .int .i64 n] w fun e w' => e = .returned (.tuple #[.int .i32 ((y * 12 + (m - 1) + n) / 12 * 10000 + ((y * 12 + (m - 1) + n) % 12 + 1 + 1) * 100 + 1), .bool true]) ∧ w' = w := by
  obtain ⟨e1, e2, e3, e4, e5⟩ := parts y m d n m0 m1 d0 d1
  have h12 : (y * 12 + (m - 1) + n) % 12 + 1 ≤ 11 := by
    apply Classical.byContradiction; intro hc
    have : (y * 12 + (m - 1) + n) % 12 + 1 = 12 := by omega
    rw [this, dim_12] at hd
    omega
  have h := add_next (y * 10000 + m * 100 + d) n w n0 n1 (by rw [e1]; exact y0) (by rw [e1]; exact y1) (by rw [e2]; exact m0) (by rw [e2]; exact m1) (by rw [e3]; exact d0) (by rw [e3]; exact d1) (by rw [e1, e2, e4]; exact hy) (by rw [e1, e2, e3, e4, e5]; exact hd) (by rw [e2, e5]; exact h12)
  rw [e1, e2, e4, e5] at h
  exact h
end Go.Proofs.Ybulkefas.Cal
