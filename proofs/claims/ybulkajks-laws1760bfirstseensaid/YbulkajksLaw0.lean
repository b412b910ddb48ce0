import Derived.Test.YbulkajksSteps
namespace Go.Proofs.Ybulkajks
open Go.RowKit Go.Maps

set_option maxHeartbeats 400000 in
set_option maxRecDepth 100000 in
theorem law_big (ao : Option Addr) (len cap : Nat) (w : World) (hlen : 1024 < len) :
    Calls Yba.prog 3 #[.slice ao len cap] w fun e w' => e = .returned (.bool true) ∧ Below w.heap.size w w' := by
  go_enter Yba.func3, Yba.ntmps3
  go_wp2
  go_ret
  exact ⟨rfl, Below.refl _ _⟩

set_option maxHeartbeats 400000 in
set_option maxRecDepth 100000 in
theorem law_none (ao : Option Addr) (cap : Nat) (w : World) :
    Calls Yba.prog 3 #[.slice ao 0 cap] w fun e w' => e = .returned (.bool true) ∧ Below w.heap.size w w' := by
  have hlm := fun (w : World) ty => Maps.len_nil (w := w) Yba.underlying24 ty
  go_enter Yba.func3, Yba.ntmps3
  go_wp2
  refine wp_loop_rounds 1 ?_
  rw [rounds_succ]
  go_wp2
  refine wp_loop_rounds 1 ?_
  rw [rounds_succ]
  go_wp2
  go_ret
  exact ⟨rfl, (Below.refl _ _).alloc (Nat.le_refl _) _⟩

end Go.Proofs.Ybulkajks
