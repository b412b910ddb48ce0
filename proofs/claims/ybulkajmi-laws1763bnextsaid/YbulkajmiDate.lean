import Derived.Test.YbulkajmiRows
import Derived.WalkKit
namespace Go.Proofs.Ybulkajmi
open Go.RowKit

def dC (n : Int) : Int := (4 * n + 3) / 146097
def dN (n : Int) : Int := n - dC n * 146097 / 4
def dy (n : Int) : Int := (4 * dN n + 3) / 1461
def dR (n : Int) : Int := dN n - dy n * 1461 / 4
def dm (n : Int) : Int := (5 * dR n + 2) / 153
def dD (n : Int) : Int := dR n - (153 * dm n + 2) / 5 + 1
def dY (n : Int) : Int := if 10 ≤ dm n then -292277022800 + (100 * dC n + dy n) + 1 else -292277022800 + (100 * dC n + dy n)
def dM (n : Int) : Int := if 10 ≤ dm n then dm n - 9 else dm n + 3

theorem dC_bd (n : Int) (_h0 : 0 ≤ n) (h1 : n ≤ 1000000000000000) : 0 ≤ dC n ∧ dC n ≤ 100000000000 := by unfold dC; omega
theorem dN_bd (n : Int) (_h0 : 0 ≤ n) : 0 ≤ dN n ∧ dN n ≤ 36524 := by unfold dN dC; omega
theorem dy_bd (n : Int) (h0 : 0 ≤ n) : 0 ≤ dy n ∧ dy n ≤ 99 := by have := dN_bd n h0; unfold dy; omega
theorem dR_bd (n : Int) (h0 : 0 ≤ n) : 0 ≤ dR n ∧ dR n ≤ 365 := by have := dN_bd n h0; unfold dR dy; omega
theorem dm_bd (n : Int) (h0 : 0 ≤ n) : 0 ≤ dm n ∧ dm n ≤ 11 := by have := dR_bd n h0; unfold dm; omega
theorem dD_bd (n : Int) (h0 : 0 ≤ n) : 1 ≤ dD n ∧ dD n ≤ 31 := by have := dR_bd n h0; unfold dD dm; omega

theorem ret3 {a b c a' b' c' : Int} (h1 : a = a') (h2 : b = b') (h3 : c = c') : Ending.returned (.tuple #[.int .i64 a, .int .i64 b, .int .i64 c]) = .returned (.tuple #[.int .i64 a', .int .i64 b', .int .i64 c']) := by rw [h1, h2, h3]

set_option maxHeartbeats 400000 in
theorem date_any (n : Int) (h0 : 0 ≤ n) (h1 : n ≤ 1000000000000000) (w : World) :
    Calls Yba.prog 7 #[.int .u64 n] w fun e w' => e = .returned (.tuple #[.int .i64 (dY n), .int .i64 (dM n), .int .i64 (dD n)]) ∧ w = w' := by
  have bC := dC_bd n h0 h1
  have bN := dN_bd n h0
  have by' := dy_bd n h0
  have bR := dR_bd n h0
  have bm := dm_bd n h0
  have bD := dD_bd n h0
  unfold dC at bC
  unfold dN dC at bN
  unfold dy dN dC at by'
  unfold dR dy dN dC at bR
  unfold dm dR dy dN dC at bm
  unfold dD dm dR dy dN dC at bD
  go_enter Yba.func7, Yba.ntmps7
  go_wp2
  · have hm : 10 ≤ dm n := by unfold dm dR dy dN dC; assumption
    go_ret3
    exact ⟨ret3 (by rw [dY, if_pos hm]; rfl) (by rw [dM, if_pos hm]; rfl) (by rw [dD]; rfl), rfl⟩
  · have hm : ¬ 10 ≤ dm n := by unfold dm dR dy dN dC; omega
    go_ret3
    exact ⟨ret3 (by rw [dY, if_neg hm]; rfl) (by rw [dM, if_neg hm]; rfl) (by rw [dD]; rfl), rfl⟩

end Go.Proofs.Ybulkajmi
