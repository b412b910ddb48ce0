import Derived.Test.YbulkajnkWalks
namespace Go.Proofs.Ybulkajnk
open Go.RowKit

set_option maxHeartbeats 2000000 in
theorem expect_any (y m : Int) (w : World) : Calls Yba.prog 7 #[.int .i64 m, .int .i64 y] w fun e w' => e = .returned (.int .i64 (dim y m)) ∧ Grown w w' := by
  by_cases hout : m < 1 ∨ 12 < m
  · exact expect_out y m w hout
  · by_cases e2 : m = 2
    · subst e2
      exact expect_feb y w
    · rcases (show m = 1 ∨ m = 3 ∨ m = 4 ∨ m = 5 ∨ m = 6 ∨ m = 7 ∨ m = 8 ∨ m = 9 ∨ m = 10 ∨ m = 11 ∨ m = 12 by omega) with rfl | rfl | rfl | rfl | rfl | rfl | rfl | rfl | rfl | rfl | rfl
      all_goals
        clear e2 hout
        simp only [dim, if_false, if_true, Int.reduceEq, or_true, or_false]
        go_enter Yba.func7, Yba.ntmps7
        go_wp2
        go_ret
        exact ⟨rfl, by repeat (first | exact Grown.refl _ | apply Grown.drew | apply Grown.alloc)⟩

set_option maxHeartbeats 400000 in
theorem table_any (y m : Int) (w : World) : Calls Yba.prog 3 #[.int .i64 m, .int .i64 y] w fun e w' => e = .returned (.bool true) ∧ Grown w w' := by
  go_enter Yba.func3, Yba.ntmps3
  go_wp2_with (first
    | (go_at_call 6; refine (days_any y m _).mono ?_; rintro e w' ⟨rfl, rfl⟩)
    | (go_at_call 7; refine (expect_any y m _).mono ?_; rintro e w' ⟨rfl, hg⟩))
  go_ret
  exact ⟨rfl, hg⟩

set_option maxHeartbeats 400000 in
theorem month_any (s y : Int) (w : World) (h0 : 0 ≤ s) (h1 : s ≤ 255) : Calls Yba.prog 4 #[.int .u8 s, .int .i64 y] w fun e w' => e = .returned (.bool true) ∧ Grown w w' := by
  go_enter Yba.func4, Yba.ntmps4
  go_wp2_with (first
    | (go_at_call 6; refine (days_any y _ _).mono ?_; rintro e w' ⟨rfl, rfl⟩)
    | (go_at_call 7; refine (expect_any y _ _).mono ?_; rintro e w' ⟨rfl, hg⟩))
  go_ret
  exact ⟨rfl, hg⟩

end Go.Proofs.Ybulkajnk
