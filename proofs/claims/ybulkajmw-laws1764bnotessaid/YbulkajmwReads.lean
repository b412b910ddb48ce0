import Derived.Test.YbulkajmwBase
namespace Go.Proofs.Ybulkajmw
open Go.RowKit

set_option maxHeartbeats 400000 in
theorem reads_nil (T : Nat) (w : World) : Calls Yba.prog 4 #[.pointer (some ⟨T, 0, none⟩), .pointer none] w fun e w' => e = .returned (.tuple #[]) ∧ w = w' := by
  go_enter Yba.func4, Yba.ntmps4
  go_wp2
  exact bodyPost_ret (v := .tuple #[]) (by simp [results, Yba.results4, go_sem]) rfl ⟨rfl, rfl⟩

set_option maxHeartbeats 400000 in
theorem reads_self (T : Nat) (w : World) : Calls Yba.prog 4 #[.pointer (some ⟨T, 0, none⟩), .pointer (some ⟨T, 0, none⟩)] w fun e w' => e = .returned (.tuple #[]) ∧ w = w' := by
  have h1 := eql_same w ⟨T, 0, none⟩
  go_enter Yba.func4, Yba.ntmps4
  go_wp2
  exact bodyPost_ret (v := .tuple #[]) (by simp [results, Yba.results4, go_sem]) rfl ⟨rfl, rfl⟩

set_option maxHeartbeats 400000 in
theorem reads_ended (T B : Nat) (ts ts' : Int) (en : Bool) (rf rf' : Int) (rv rv' : Value) (w : World) (hne : B ≠ T) (hT : IsTx w T ts en rf rv) (hB : IsTx w B ts' true rf' rv') :
    Calls Yba.prog 4 #[.pointer (some ⟨T, 0, none⟩), .pointer (some ⟨B, 0, none⟩)] w fun e w' => e = .returned (.tuple #[]) ∧ w = w' := by
  have h1 := eql_other hne hB hT
  have c2 := hB.c2
  clear hT hB
  go_enter Yba.func4, Yba.ntmps4
  go_wp2
  exact bodyPost_ret (v := .tuple #[]) (by simp [results, Yba.results4, go_sem]) rfl ⟨rfl, rfl⟩

set_option maxHeartbeats 400000 in
theorem reads_active (T B n : Nat) (ts ts' : Int) (en : Bool) (rf rf' : Int) (rv rv' : Value) (xs : List Value) (w : World) (hne : B ≠ T) (hT : IsTx w T ts en rf rv) (hB : IsTx w B ts' false rf' rv') (base : Nat) (ho : w.ownsRow base 22 1 rv' n xs)
    (hTb : T < base) (hBb : B < base) (hbase : base ≤ w.heap.size) (hn : n ≤ 1000) :
    Calls Yba.prog 4 #[.pointer (some ⟨T, 0, none⟩), .pointer (some ⟨B, 0, none⟩)] w fun e w' => e = .returned (.tuple #[]) ∧
      ∃ g c w1, w1.ownsRow base 22 1 (.slice (some ⟨g, 0, none⟩) (n + 1) c) (n + 1) (xs ++ [.pointer (some ⟨T, 0, none⟩)]) ∧ (w.alloc (.cells #[.pointer (some ⟨T, 0, none⟩)] 22)).grownBy w1 rv'.ownBlock ∧ (rv'.ownBlock = some g ∨ g = (w.alloc (.cells #[.pointer (some ⟨T, 0, none⟩)] 22)).heap.size) ∧
        w' = (w1.setCell ⟨B, 9, none⟩ (.slice (some ⟨g, 0, none⟩) (n + 1) c)).setCell ⟨T, 8, none⟩ (.int .i64 (wrap64 (rf + 1))) := by
  obtain ⟨i22, hi, hz, hs, hb⟩ := info_parts Yba.info22
  have h1 := eql_other hne hB hT
  have c2 := hB.c2
  have c9 := hB.c9
  have f9 := hB.fz 9
  have t8 := hT.c8
  have tf := hT.fz 8
  have ltT := hT.lt
  have ltB := hB.lt
  have nT := row_ne ho hTb
  have nB := row_ne ho hBb
  obtain ⟨ao, cap, rfl⟩ := row_shape ho
  clear hT hB
  go_enter Yba.func4, Yba.ntmps4
  go_wp2_with (at_builtin; refine append_at _ rfl _ _ 27 rfl base 22 i22 (.pointer none) 1 8 Yba.underlying27 hi hz hs hb rfl (by decide) _ _ _ rfl (ho.alloc _) ⟨w.heap.size, 0, none⟩ 1 [.pointer (some ⟨T, 0, none⟩)] rfl rfl (cell_one_new _ _ _) (pv_oneCell T) (by unfold maxLen; omega) (by omega) (by simp; omega) ?_; intro g c w1 r1 t1 l1; have d9 := cell_step c9 t1 nB; have e9 := frozen_step' f9 t1 ltB nB; have d8 := cell_step t8 t1 nT; have e8 := frozen_step' tf t1 ltT nT)
  go_end0
  exact ⟨rfl, _, _, _, r1, t1, l1, rfl⟩

end Go.Proofs.Ybulkajmw
