import Derived.Test.YbulkajnkWalks
namespace Go.Proofs.Ybulkajnk
open Go.RowKit

/-- The days of the first k months. -/
def sumTo (y : Int) : Nat → Int
  | 0 => 0
  | k + 1 => sumTo y k + dim y (k + 1)

theorem lp_bd (y : Int) : 0 ≤ lp01 y ∧ lp01 y ≤ 1 := by unfold lp01; split <;> omega
theorem dim_bd (y m : Int) : 28 ≤ dim y m ∧ dim y m ≤ 31 := by
  have := lp_bd y
  unfold dim
  split
  · omega
  · split <;> omega
theorem sumTo_bd (y : Int) (k : Nat) : 0 ≤ sumTo y k ∧ sumTo y k ≤ 31 * k := by
  induction k with
  | zero => simp [sumTo]
  | succ k ih =>
    have := dim_bd y ((k : Int) + 1)
    simp only [sumTo]
    omega
theorem sumTo_year (y : Int) : sumTo y 12 = 365 + lp01 y := by
  simp [sumTo, dim]
  omega

set_option maxHeartbeats 400000 in
theorem total_any (y : Int) (w : World) : Calls Yba.prog 5 #[.int .i64 y] w fun e w' => e = .returned (.bool true) ∧ w = w' := by
  go_enter Yba.func5, Yba.ntmps5
  go_wp2
  go_loop [3, 4] (fun t m => ∃ k : Nat, k ≤ 12 ∧ m = .int .i64 ((k : Int) + 1) ∧ t = .int .i64 (sumTo y k)) (fun _ m => (13 - intOf m).toNat)
  case atStart => exact ⟨0, Nat.zero_le _, rfl, rfl⟩
  case round =>
    obtain ⟨k, hk, rfl, rfl⟩ := hrel
    have hb := sumTo_bd y k
    have hd := dim_bd y ((k : Int) + 1)
    by_cases hlt : k < 12
    · go_wp2_with (go_at_call 6; refine (days_any y _ _).mono ?_; rintro e w' ⟨rfl, rfl⟩)
      go_round
      case rel => exact ⟨k + 1, by omega, by go_num, rfl⟩
      case measure => simp [intOf]; omega
    · obtain rfl : k = 12 := by omega
      have hs := sumTo_year y
      cases hl : lpB y with
      | true =>
        have e : sumTo y 12 = 366 := by rw [hs]; simp [lp01, hl]
        clear hs
        go_wp2_with (go_at_call 8; refine (leap_any y _).mono ?_; rintro e w' ⟨rfl, rfl⟩)
        go_ret
        exact ⟨rfl, rfl⟩
      | false =>
        have e : sumTo y 12 = 365 := by rw [hs]; simp [lp01, hl]
        clear hs
        go_wp2_with (go_at_call 8; refine (leap_any y _).mono ?_; rintro e w' ⟨rfl, rfl⟩)
        go_ret
        exact ⟨rfl, rfl⟩

end Go.Proofs.Ybulkajnk
