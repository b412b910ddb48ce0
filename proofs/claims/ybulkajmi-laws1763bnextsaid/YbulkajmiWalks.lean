import Derived.Test.YbulkajmiCal
namespace Go.Proofs.Ybulkajmi
open Go.RowKit

theorem tm (y k : Int) : (y.tmod k == 0) = (y % k == 0) := by
  rw [Bool.eq_iff_iff]
  simp only [beq_iff_eq]
  rw [← Int.dvd_iff_tmod_eq_zero, ← Int.dvd_iff_emod_eq_zero]
theorem tm_yes {y k : Int} (h : y % k = 0) : (y.tmod k == 0) = true := by rw [tm]; simp [h]
theorem tm_no {y k : Int} (h : ¬ y % k = 0) : (y.tmod k == 0) = false := by rw [tm]; simp [h]
theorem tn_yes {y k : Int} (h : ¬ y % k = 0) : (y.tmod k != 0) = true := by simp [bne, tm_no h]
theorem tn_no {y k : Int} (h : y % k = 0) : (y.tmod k != 0) = false := by simp [bne, tm_yes h]

set_option maxHeartbeats 400000 in
theorem leap_any (y : Int) (w : World) :
    Calls Yba.prog 9 #[.int .i64 y] w fun e w' => e = .returned (.bool (lpB y)) ∧ w = w' := by
  by_cases e4 : y % 4 = 0
  · have q4 := tm_yes e4
    by_cases e100 : y % 100 = 0
    · have q100 := tn_no e100
      by_cases e400 : y % 400 = 0
      · have r : lpB y = true := by simp [lpB, e4, e400]
        rw [r]
        have q400 := tm_yes e400
        clear e4 e100 e400 r
        go_enter Yba.func9, Yba.ntmps9
        go_wp2
        go_ret
        exact ⟨rfl, rfl⟩
      · have r : lpB y = false := by simp [lpB, e4, e100, e400]
        rw [r]
        have q400 := tm_no e400
        clear e4 e100 e400 r
        go_enter Yba.func9, Yba.ntmps9
        go_wp2
        go_ret
        exact ⟨rfl, rfl⟩
    · have q100 := tn_yes e100
      have r : lpB y = true := by simp [lpB, e4, e100]
      rw [r]
      clear e4 e100 r
      go_enter Yba.func9, Yba.ntmps9
      go_wp2
      go_ret
      exact ⟨rfl, rfl⟩
  · have q4 := tm_no e4
    have r : lpB y = false := by simp [lpB, e4]
    rw [r]
    clear e4 r
    go_enter Yba.func9, Yba.ntmps9
    go_wp2
    go_ret
    exact ⟨rfl, rfl⟩

set_option maxHeartbeats 800000 in
theorem days_any (y m : Int) (w : World) (h2 : 1 ≤ m) (h3 : m ≤ 12) :
    Calls Yba.prog 8 #[.int .i64 y, .int .i64 m] w fun e w' => e = .returned (.int .i64 (dim y m)) ∧ w = w' := by
  by_cases e2 : m = 2
  · subst e2
    cases hl : lpB y with
    | true =>
      have r : dim y 2 = 29 := by simp [dim, lp01, hl]
      rw [r]
      clear r
      go_enter Yba.func8, Yba.ntmps8
      go_wp2_with (go_at_call 9; refine (leap_any y w).mono ?_; rintro e w' ⟨rfl, rfl⟩)
      go_ret
      exact ⟨rfl, rfl⟩
    | false =>
      have r : dim y 2 = 28 := by simp [dim, lp01, hl]
      rw [r]
      clear r
      go_enter Yba.func8, Yba.ntmps8
      go_wp2_with (go_at_call 9; refine (leap_any y w).mono ?_; rintro e w' ⟨rfl, rfl⟩)
      go_ret
      exact ⟨rfl, rfl⟩
  · rcases (show m = 1 ∨ m = 3 ∨ m = 4 ∨ m = 5 ∨ m = 6 ∨ m = 7 ∨ m = 8 ∨ m = 9 ∨ m = 10 ∨ m = 11 ∨ m = 12 by omega) with rfl | rfl | rfl | rfl | rfl | rfl | rfl | rfl | rfl | rfl | rfl
    all_goals
      clear e2 h2 h3
      simp only [dim, if_false, if_true, Int.reduceEq, or_true, or_false]
      go_enter Yba.func8, Yba.ntmps8
      go_wp2
      go_ret
      exact ⟨rfl, rfl⟩

set_option maxHeartbeats 400000 in
theorem day_any (q r : Int) (w : World) (q0 : 0 ≤ q) (q1 : q ≤ 4294967295) (r0 : 0 ≤ r) (r1 : r ≤ 4294967295) :
    Calls Yba.prog 6 #[.int .u32 q, .int .u32 r] w fun e w' => e = .returned (.int .u64 (q * 146097 + r * 1009 % 146097)) ∧ w = w' := by
  go_enter Yba.func6, Yba.ntmps6
  go_wp2
  go_ret
  exact ⟨rfl, rfl⟩
end Go.Proofs.Ybulkajmi
