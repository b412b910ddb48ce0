import Derived.Test.YbulkajnkRows
import Derived.WalkKit
namespace Go.Proofs.Ybulkajnk
open Go.RowKit

def lpB (y : Int) : Bool := decide (y % 4 = 0 ∧ (y % 100 ≠ 0 ∨ y % 400 = 0))
def lp01 (y : Int) : Int := if lpB y = true then 1 else 0
def dim (y m : Int) : Int := if m = 2 then 28 + lp01 y else if m = 4 ∨ m = 6 ∨ m = 9 ∨ m = 11 then 30 else 31

theorem tm (y k : Int) : (y.tmod k == 0) = (y % k == 0) := by
  rw [Bool.eq_iff_iff]
  simp only [beq_iff_eq]
  rw [← Int.dvd_iff_tmod_eq_zero, ← Int.dvd_iff_emod_eq_zero]
theorem tm_yes {y k : Int} (h : y % k = 0) : (y.tmod k == 0) = true := by rw [tm]; simp [h]
theorem tm_no {y k : Int} (h : ¬ y % k = 0) : (y.tmod k == 0) = false := by rw [tm]; simp [h]
theorem tn_yes {y k : Int} (h : ¬ y % k = 0) : (y.tmod k != 0) = true := by simp [bne, tm_no h]
theorem tn_no {y k : Int} (h : y % k = 0) : (y.tmod k != 0) = false := by simp [bne, tm_yes h]

set_option maxHeartbeats 400000 in
theorem leap_any (y : Int) (w : World) : Calls Yba.prog 8 #[.int .i64 y] w fun e w' => e = .returned (.bool (lpB y)) ∧ w = w' := by
  by_cases e400 : y % 400 = 0
  · have q400 := tm_yes e400
    have r : lpB y = true := by simp [lpB, e400]; omega
    rw [r]
    clear e400 r
    go_enter Yba.func8, Yba.ntmps8
    go_wp2
    go_ret
    exact ⟨rfl, rfl⟩
  · have q400 := tm_no e400
    by_cases e100 : y % 100 = 0
    · have q100 := tm_yes e100
      have r : lpB y = false := by simp [lpB, e100, e400]
      rw [r]
      clear e400 e100 r
      go_enter Yba.func8, Yba.ntmps8
      go_wp2
      go_ret
      exact ⟨rfl, rfl⟩
    · have q100 := tm_no e100
      by_cases e4 : y % 4 = 0
      · have q4 := tm_yes e4
        have r : lpB y = true := by simp [lpB, e4, e100]
        rw [r]
        clear e400 e100 e4 r
        go_enter Yba.func8, Yba.ntmps8
        go_wp2
        go_ret
        exact ⟨rfl, rfl⟩
      · have q4 := tm_no e4
        have r : lpB y = false := by simp [lpB, e4]
        rw [r]
        clear e400 e100 e4 r
        go_enter Yba.func8, Yba.ntmps8
        go_wp2
        go_ret
        exact ⟨rfl, rfl⟩

set_option maxHeartbeats 800000 in
theorem days_feb (y : Int) (w : World) : Calls Yba.prog 6 #[.int .i64 2, .int .i64 y] w fun e w' => e = .returned (.int .i64 (dim y 2)) ∧ w = w' := by
  by_cases e4 : y % 4 = 0
  · have q4 := tm_yes e4
    by_cases e100 : y % 100 = 0
    · have q100 := tn_no e100
      by_cases e400 : y % 400 = 0
      · have r : dim y 2 = 29 := by simp [dim, lp01, lpB, e4, e400]
        rw [r]
        have q400 := tm_yes e400
        clear e4 e100 e400 r
        go_enter Yba.func6, Yba.ntmps6
        go_wp2
        go_ret
        exact ⟨rfl, rfl⟩
      · have r : dim y 2 = 28 := by simp [dim, lp01, lpB, e4, e100, e400]
        rw [r]
        have q400 := tm_no e400
        clear e4 e100 e400 r
        go_enter Yba.func6, Yba.ntmps6
        go_wp2
        go_ret
        exact ⟨rfl, rfl⟩
    · have q100 := tn_yes e100
      have r : dim y 2 = 29 := by simp [dim, lp01, lpB, e4, e100]
      rw [r]
      clear e4 e100 r
      go_enter Yba.func6, Yba.ntmps6
      go_wp2
      go_ret
      exact ⟨rfl, rfl⟩
  · have q4 := tm_no e4
    have r : dim y 2 = 28 := by simp [dim, lp01, lpB, e4]
    rw [r]
    clear e4 r
    go_enter Yba.func6, Yba.ntmps6
    go_wp2
    go_ret
    exact ⟨rfl, rfl⟩

set_option maxHeartbeats 800000 in
theorem days_any (y m : Int) (w : World) : Calls Yba.prog 6 #[.int .i64 m, .int .i64 y] w fun e w' => e = .returned (.int .i64 (dim y m)) ∧ w = w' := by
  by_cases e2 : m = 2
  · subst e2
    exact days_feb y w
  · by_cases e30 : m = 4 ∨ m = 6 ∨ m = 9 ∨ m = 11
    · have r : dim y m = 30 := by rw [dim, if_neg e2, if_pos e30]
      rw [r]
      clear r
      rcases e30 with rfl | rfl | rfl | rfl
      all_goals
        clear e2
        go_enter Yba.func6, Yba.ntmps6
        go_wp2
        go_ret
        exact ⟨rfl, rfl⟩
    · have r : dim y m = 31 := by rw [dim, if_neg e2, if_neg e30]
      rw [r]
      have q2 : (m == 2) = false := by simpa using e2
      have q4 : (m == 4) = false := by simp; omega
      have q6 : (m == 6) = false := by simp; omega
      have q9 : (m == 9) = false := by simp; omega
      have q11 : (m == 11) = false := by simp; omega
      clear r e2 e30
      go_enter Yba.func6, Yba.ntmps6
      go_wp2
      go_ret
      exact ⟨rfl, rfl⟩

set_option maxHeartbeats 800000 in
theorem expect_out (y m : Int) (w : World) (h : m < 1 ∨ 12 < m) : Calls Yba.prog 7 #[.int .i64 m, .int .i64 y] w fun e w' => e = .returned (.int .i64 (dim y m)) ∧ Grown w w' := by
  have r : dim y m = 31 := by rw [dim, if_neg (by omega), if_neg (by omega)]
  rw [r]
  clear r
  rcases h with h | h
  · go_enter Yba.func7, Yba.ntmps7
    go_wp2
    go_ret
    exact ⟨rfl, Grown.refl _⟩
  · have h' : ¬ m < 1 := by omega
    go_enter Yba.func7, Yba.ntmps7
    go_wp2
    go_ret
    exact ⟨rfl, Grown.refl _⟩

set_option maxHeartbeats 800000 in
theorem expect_feb (y : Int) (w : World) : Calls Yba.prog 7 #[.int .i64 2, .int .i64 y] w fun e w' => e = .returned (.int .i64 (dim y 2)) ∧ Grown w w' := by
  cases hl : lpB y with
  | true =>
    have r : dim y 2 = 29 := by simp [dim, lp01, hl]
    rw [r]
    clear r
    go_enter Yba.func7, Yba.ntmps7
    go_wp2_with (go_at_call 8; refine (leap_any y _).mono ?_; rintro e w' ⟨rfl, rfl⟩)
    go_ret
    exact ⟨rfl, by repeat (first | exact Grown.refl _ | apply Grown.drew | apply Grown.alloc)⟩
  | false =>
    have r : dim y 2 = 28 := by simp [dim, lp01, hl]
    rw [r]
    clear r
    go_enter Yba.func7, Yba.ntmps7
    go_wp2_with (go_at_call 8; refine (leap_any y _).mono ?_; rintro e w' ⟨rfl, rfl⟩)
    go_ret
    exact ⟨rfl, by repeat (first | exact Grown.refl _ | apply Grown.drew | apply Grown.alloc)⟩

end Go.Proofs.Ybulkajnk
