import Derived.Test.YbulkajmwSteps
import Derived.BigQuiet
import Derived.Deep.QuietTactic
namespace Go.Proofs.Ybulkajmw
open Go.RowKit

set_option maxHeartbeats 1600000 in
set_option maxRecDepth 100000 in
theorem law_any (a0 : Int) (a1 : Bool) (a2 : Int) (a3 : Int) (a4 : Int) (b0 : 0 ≤ a0 ∧ a0 ≤ 255) (b4 : 0 ≤ a4 ∧ a4 ≤ 255) (K : Nat) (hK1 : a4 % 8 ≤ K) (hK2 : K ≤ a4 % 8) (w : World) :
    Calls Yba.prog 3 #[.int .u8 a0, .bool a1, .int .i64 a2, .int .i64 a3, .int .u8 a4] w fun e w' => e = .returned (.bool true) ∧ Below w.heap.size w w' := by
  obtain ⟨i22, hi, hz, hs, hb⟩ := info_parts Yba.info22
  have hK8 : K ≤ 7 := by omega
  go_enter Yba.func3, Yba.ntmps3
  go_wp2_with (at_make; refine wpList_make_own _ rfl _ _ 27 rfl (w.heap.size + 2) 22 i22 (.pointer none) 1 Yba.underlying27 hi hz hs .i64 .i64 _ K rfl rfl (by omega) (by rw [hb]; omega) (by unfold maxLen; omega) (by simp) ?_; intro w0 own0 grow0; have I0 := inv_zero (a1 := a1) (a2 := a2) (a3 := a3) grow0 own0; simp only [World.size_alloc] at I0; clear own0 grow0)
  go_loopw [14, 15] (fun v i wr => ∃ k : Nat, k ≤ K ∧ i = .int .i64 k ∧ Inv w wr a1 a2 a3 k v) (fun _ i _ => K - (intOf i).toNat)
  case atStart => exact ⟨0, Nat.zero_le _, rfl, I0⟩
  case round =>
    obtain ⟨k, hk, rfl, ps, rv, hT, hW, hv, hr, hne, hB⟩ := hrel
    clear I0
    obtain ⟨vo, vcap, rfl⟩ := row_shape hv
    obtain ⟨ro, rcap, rfl⟩ := row_shape hr
    by_cases hlt : k < K
    · have ltT := hT.lt
      have ltW := hW.lt
      have rW := row_ne hr (show w.heap.size + 1 < w.heap.size + 2 by omega)
      go_wp2_with (first
        | (at_builtin; refine append_at _ rfl (.tmp 45) (.tmp 47) 27 rfl (w.heap.size + 2) 22 i22 (.pointer none) 1 8 Yba.underlying27 hi hz hs hb rfl (by decide) _ _ _ rfl ((hv.alloc _).alloc _) ⟨wr.heap.size + 1, 0, none⟩ 1 [pv wr.heap.size] rfl rfl (cell_one_at _ _ _ _ (by simp)) (pv_oneCell _) (by unfold maxLen; omega) (by omega) (by simp; omega) ?_; intro g1 c1 w1 r1 t1 l1; have S := inv_step (w2 := w) (g2 := 0) (c2 := 0) (o2 := .cells #[] 0) hT hW hv hr hne hB r1 t1 l1; have d9 := S.1.c9; have s1 := S.2.2.1)
        | (at_builtin; refine append_at _ rfl (.tmp 53) (.tmp 55) 27 rfl (w.heap.size + 2) 22 i22 (.pointer none) 1 8 Yba.underlying27 hi hz hs hb rfl (by decide) _ _ _ rfl (S.2.1.alloc _) ⟨w1.heap.size, 0, none⟩ 1 [pv wr.heap.size] rfl rfl (cell_one_new _ _ _) (pv_oneCell _) (by unfold maxLen; omega) (by omega) (by simp; omega) ?_; intro g2 c2 w2 r2 t2 l2; have e9 := cell_step d9 t2 rW; have f9 := frozen_step' (S.1.fz 9) t2 S.1.lt rW)
        | fail)
      have R := (inv_step hT hW hv hr hne hB r1 t1 l1).2.2.2 r2 t2 l2
      go_roundw
      case rel => exact ⟨k + 1, by omega, by go_num, R⟩
      case measure => simp [intOf]; omega
    · obtain rfl : k = K := by omega
      have t2 := hT.c2
      have t8 := hT.c8
      have t9 := hT.c9
      have x2 := hW.c2
      have x8 := hW.c8
      have x9 := hW.c9
      rcases (show a0 % 3 = 0 ∨ a0 % 3 = 1 ∨ a0 % 3 = 2 by omega) with s | s | s
      · have q0 : (a0 % 3 == 0) = true := by simp [s]
        have q2 : (a0 % 3 == 2) = false := by simp [s]
        clear s
        by_cases h0 : k = 0
        · go_wp2_with (go_at_call 4; refine (reads_nil w.heap.size wr).mono ?_; rintro e w' ⟨rfl, rfl⟩)
          refine wp_loop_rounds 1 ?_
          rw [rounds_succ]
          go_wp2
          go_ret
          exact ⟨rfl, hB⟩
        · obtain ⟨g, rfl⟩ := row_some hv (by omega)
          obtain ⟨gr, rfl⟩ := row_some hr (by omega)
          go_wp2_with (go_at_call 4; refine (reads_nil w.heap.size wr).mono ?_; rintro e w' ⟨rfl, rfl⟩)
          clear t2 t8 t9 x2 x8 x9
          obtain ⟨wo, rfl⟩ : ∃ wo : World, wo = wr := ⟨_, rfl⟩
          go_loopw [22] (fun i w2 => ∃ m : Nat, m ≤ k ∧ i = .int .i64 m ∧ Fin w w2 a1 a2 a3 k k (some ⟨g, 0, none⟩) gr vcap rcap ps []) (fun i _ => k - (intOf i).toNat)
          case atStart => exact ⟨0, Nat.zero_le _, rfl, hT, hW, hv, by simpa using hr, hB⟩
          case round =>
            obtain ⟨m, hm, rfl, F⟩ := hrel
            have x9 := F.x.c9
            by_cases hlt2 : m < k
            · obtain ⟨y, e1, e2⟩ := F.both m hlt2 (Nat.le_refl _)
              have q := neq_same
              go_wp2
              go_quiet (fail)
              go_wp2
              go_roundw
              case rel => exact ⟨m + 1, by omega, by go_num, F.drewN nq⟩
              case measure => simp [intOf]; omega
            · go_wp2
              go_ret
              exact ⟨rfl, F.b⟩
      · have q0 : (a0 % 3 == 0) = false := by simp [s]
        have q1 : (a0 % 3 == 1) = true := by simp [s]
        have q2 : (a0 % 3 == 2) = false := by simp [s]
        clear s
        by_cases h0 : k = 0
        · go_wp2_with (go_at_call 4; refine (reads_self w.heap.size wr).mono ?_; rintro e w' ⟨rfl, rfl⟩)
          refine wp_loop_rounds 1 ?_
          rw [rounds_succ]
          go_wp2
          go_ret
          exact ⟨rfl, hB⟩
        · obtain ⟨g, rfl⟩ := row_some hv (by omega)
          obtain ⟨gr, rfl⟩ := row_some hr (by omega)
          go_wp2_with (go_at_call 4; refine (reads_self w.heap.size wr).mono ?_; rintro e w' ⟨rfl, rfl⟩)
          clear t2 t8 t9 x2 x8 x9
          obtain ⟨wo, rfl⟩ : ∃ wo : World, wo = wr := ⟨_, rfl⟩
          go_loopw [22] (fun i w2 => ∃ m : Nat, m ≤ k ∧ i = .int .i64 m ∧ Fin w w2 a1 a2 a3 k k (some ⟨g, 0, none⟩) gr vcap rcap ps []) (fun i _ => k - (intOf i).toNat)
          case atStart => exact ⟨0, Nat.zero_le _, rfl, hT, hW, hv, by simpa using hr, hB⟩
          case round =>
            obtain ⟨m, hm, rfl, F⟩ := hrel
            have x9 := F.x.c9
            by_cases hlt2 : m < k
            · obtain ⟨y, e1, e2⟩ := F.both m hlt2 (Nat.le_refl _)
              have q := neq_same
              go_wp2
              go_quiet (fail)
              go_wp2
              go_roundw
              case rel => exact ⟨m + 1, by omega, by go_num, F.drewN nq⟩
              case measure => simp [intOf]; omega
            · go_wp2
              go_ret
              exact ⟨rfl, F.b⟩
      · have q0 : (a0 % 3 == 0) = false := by simp [s]
        have q1 : (a0 % 3 == 1) = false := by simp [s]
        have q2 : (a0 % 3 == 2) = true := by simp [s]
        clear s
        cases a1
        · by_cases h0 : k = 0
          · go_wp2_with (go_at_call 4; refine (reads_open hT hW hv hr hne hB (by omega)).mono ?_; rintro e w' ⟨rfl, gr, cr, F⟩; have y2 := F.t.c2; have y8 := F.t.c8; have y9 := F.t.c9; have z2 := F.x.c2; have z8 := F.x.c8; have z9 := F.x.c9)
            refine wp_loop_rounds 1 ?_
            rw [rounds_succ]
            have q := neq_same
            have zl := F.last_at (show (a4 % 8).toNat = k by omega)
            go_wp2
            go_ret
            exact ⟨rfl, F.b⟩
          · obtain ⟨g, rfl⟩ := row_some hv (by omega)
            go_wp2_with (go_at_call 4; refine (reads_open hT hW hv hr hne hB (by omega)).mono ?_; rintro e w' ⟨rfl, gr, cr, F0⟩; have y2 := F0.t.c2; have y8 := F0.t.c8; have y9 := F0.t.c9; have z2 := F0.x.c2; have z8 := F0.x.c8; have z9 := F0.x.c9)
            clear t2 t8 t9 x2 x8 x9 y2 y8 y9 z2 z8 z9
            obtain ⟨wo, rfl⟩ : ∃ wo : World, wo = wr := ⟨_, rfl⟩
            go_loopw [22] (fun i w2 => ∃ m : Nat, m ≤ k ∧ i = .int .i64 m ∧ Fin w w2 false (wrap64 (a2 + 1)) a3 k (k + 1) (some ⟨g, 0, none⟩) gr vcap cr ps [.pointer (some ⟨w.heap.size, 0, none⟩)]) (fun i _ => k - (intOf i).toNat)
            case atStart => exact ⟨0, Nat.zero_le _, rfl, F0⟩
            case round =>
              obtain ⟨m, hm, rfl, F⟩ := hrel
              have x9 := F.x.c9
              have q := neq_same
              by_cases hlt2 : m < k
              · obtain ⟨y, e1, e2⟩ := F.both m hlt2 (Nat.le_succ _)
                go_wp2
                go_quiet (fail)
                go_wp2
                go_roundw
                case rel => exact ⟨m + 1, by omega, by go_num, F.drewN nq⟩
                case measure => simp [intOf]; omega
              · have zl := F.last_at (show (a4 % 8).toNat = k by omega)
                go_wp2
                go_ret
                exact ⟨rfl, F.b⟩
        · by_cases h0 : k = 0
          · go_wp2_with (go_at_call 4; refine (reads_ended w.heap.size (w.heap.size + 1) 1 2 false a2 a3 _ _ wr (by omega) hT hW).mono ?_; rintro e w' ⟨rfl, rfl⟩)
            refine wp_loop_rounds 1 ?_
            rw [rounds_succ]
            go_wp2
            go_ret
            exact ⟨rfl, hB⟩
          · obtain ⟨g, rfl⟩ := row_some hv (by omega)
            obtain ⟨gr, rfl⟩ := row_some hr (by omega)
            go_wp2_with (go_at_call 4; refine (reads_ended w.heap.size (w.heap.size + 1) 1 2 false a2 a3 _ _ wr (by omega) hT hW).mono ?_; rintro e w' ⟨rfl, rfl⟩)
            clear t2 t8 t9 x2 x8 x9
            obtain ⟨wo, rfl⟩ : ∃ wo : World, wo = wr := ⟨_, rfl⟩
            go_loopw [22] (fun i w2 => ∃ m : Nat, m ≤ k ∧ i = .int .i64 m ∧ Fin w w2 true a2 a3 k k (some ⟨g, 0, none⟩) gr vcap rcap ps []) (fun i _ => k - (intOf i).toNat)
            case atStart => exact ⟨0, Nat.zero_le _, rfl, hT, hW, hv, by simpa using hr, hB⟩
            case round =>
              obtain ⟨m, hm, rfl, F⟩ := hrel
              have x9 := F.x.c9
              by_cases hlt2 : m < k
              · obtain ⟨y, e1, e2⟩ := F.both m hlt2 (Nat.le_refl _)
                have q := neq_same
                go_wp2
                go_quiet (fail)
                go_wp2
                go_roundw
                case rel => exact ⟨m + 1, by omega, by go_num, F.drewN nq⟩
                case measure => simp [intOf]; omega
              · go_wp2
                go_ret
                exact ⟨rfl, F.b⟩

end Go.Proofs.Ybulkajmw
