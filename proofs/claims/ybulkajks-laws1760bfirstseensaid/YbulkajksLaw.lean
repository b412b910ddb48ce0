import Derived.Test.YbulkajksSteps
import Derived.BigQuiet
import Derived.Deep.QuietTactic
namespace Go.Proofs.Ybulkajks
open Go.RowKit Go.Maps

set_option maxHeartbeats 1600000 in
set_option maxRecDepth 100000 in
theorem law_some (b off len cap : Nat) (ss : List ByteArray) (w : World) (hlen : len ≤ 1024) (hb : b < w.heap.size) (hc : ∀ j, j < len → w.cell? ⟨b, off + j, none⟩ = some (.string (ss.getD j ByteArray.empty))) (hs : ∀ j, (ss.getD j ByteArray.empty).size ≤ maxLen) :
    Calls Yba.prog 3 #[.slice (some ⟨b, off, none⟩) len cap] w fun e w' => e = .returned (.bool true) ∧ Below w.heap.size w w' := by
  obtain ⟨i9, hi9, hz9, hs9, hb9⟩ := info_parts Yba.info9
  have hg : decide ((1024 : Int) < (len : Int)) = false := by simp; omega
  have HC : Hid ((∀ j, j < len → w.cell? ⟨b, off + j, none⟩ = some (.string (ss.getD j ByteArray.empty))) ∧ (∀ j, (ss.getD j ByteArray.empty).size ≤ maxLen)) := ⟨hc, hs⟩
  clear hc hs
  go_enter Yba.func3, Yba.ntmps3
  go_wp2
  go_loopw [4, 5] (fun v i wr => ∃ k : Nat, k ≤ len ∧ i = .int .i64 k ∧ Inv w wr k v) (fun _ i _ => len - (intOf i).toNat)
  case atStart => exact ⟨0, Nat.zero_le _, rfl, inv_zero w⟩
  case round =>
    obtain ⟨k, hk, rfl, S, mo, nv, hv, h, ho, hne, hB, hl, hnd, hsz⟩ := hrel
    obtain ⟨ao, vcap, rfl⟩ := row_shape ho
    by_cases hlt : k < len
    · obtain ⟨x, hx⟩ : ∃ x, x = ss.getD k ByteArray.empty := ⟨_, rfl⟩
      have hck : wr.cell? ⟨b, off + k, none⟩ = some (.string x) := by rw [hx]; exact (hB.cell (by exact hb)).trans (HC.out.1 k hlt)
      have hxs : x.size ≤ maxLen := by rw [hx]; exact HC.out.2 k
      clear hx
      by_cases hmem : x ∈ S
      · obtain ⟨m, hm⟩ := List.getElem?_of_mem hmem
        have HM : Hid (S[m]? = some x) := hm
        clear hm hmem
        go_wp2_with (first
          | (go_at_call 4; refine (index_present ao (w.heap.size + 1) S.length vcap m S x wr ho (by omega) HM.out hnd).mono ?_; rintro e w' ⟨rfl, rfl⟩)
          | (go_at_call 5; refine (account_there w.heap.size mo nv hv S x m _ h HM.out hxs).mono ?_; rintro e w' ⟨rfl, rfl⟩)
          | fail)
        go_roundw
        case rel => exact ⟨k + 1, by omega, by go_num, S, mo, nv, hv, h, ho, hne, hB, by omega, hnd, hsz⟩
        case measure => simp [intOf]; omega
      · go_wp2_with (first
          | (go_at_call 4; refine (index_absent ao (w.heap.size + 1) S.length vcap S x wr ho (by omega) hmem).mono ?_; rintro e w' ⟨rfl, rfl⟩)
          | (at_builtin; refine append_at _ rfl (.tmp 31) (.tmp 33) 22 rfl (w.heap.size + 1) 9 i9 (.string ByteArray.empty) 1 16 Yba.underlying22 hi9 hz9 hs9 hb9 rfl (by decide) _ _ _ rfl (ho.alloc _) ⟨wr.heap.size, 0, none⟩ 1 [.string x] rfl rfl (cell_one_new _ _ _) (str_oneCell x) (by unfold maxLen; omega) (by omega) (by have := h.lt; simp; omega) ?_; intro g c w1 r1 t1 l1; have h1 := (inv_new (w2 := w1) (k := k) h hne hB hl hnd hsz hmem hxs ho r1 t1 l1).1)
          | (go_at_call 5; refine (account_out w.heap.size mo nv hv S x _ h1 hmem hxs (by omega)).mono ?_; rintro e w2 ⟨rfl, hacc⟩)
          | fail)
        have R := (inv_new (w2 := w2) (k := k) h hne hB hl hnd hsz hmem hxs ho r1 t1 l1).2 hacc
        go_roundw
        case rel => exact ⟨k + 1, by omega, by go_num, R⟩
        case measure => simp [intOf]; omega
    · obtain ⟨no, ncap, rfl⟩ := row_shape h.names
      obtain ⟨ho', hcap, rfl⟩ := row_shape h.held
      have c0 := h.c0
      have c1 := h.c1
      have c2 := h.c2
      have hlm := fun ty => h.lenmap ty
      by_cases h0 : S.length = 0
      · go_wp2
        refine wp_loop_rounds 1 ?_
        rw [rounds_succ]
        go_wp2
        go_ret
        exact ⟨rfl, hB⟩
      · obtain ⟨g, rfl⟩ := row_some ho (by omega)
        obtain ⟨gn, rfl⟩ := row_some h.names (by omega)
        obtain ⟨gh, rfl⟩ := row_some h.held (by omega)
        have HS : Hid (S.length ≤ k) := hl
        have hl2 : S.length ≤ 1024 := by omega
        obtain ⟨wo, rfl⟩ : ∃ wo : World, wo = wr := ⟨_, rfl⟩
        go_wp2
        clear hlm c0 c1 c2
        go_loopw [8] (fun i w2 => ∃ m : Nat, m ≤ S.length ∧ i = .int .i64 m ∧ Led w2 w.heap.size mo (.slice (some ⟨gn, 0, none⟩) S.length ncap) (.slice (some ⟨gh, 0, none⟩) S.length hcap) S ∧ w2.ownsRow (w.heap.size + 1) 9 1 (.slice (some ⟨g, 0, none⟩) S.length vcap) S.length (S.map .string) ∧ Below w.heap.size w w2) (fun i _ => S.length - (intOf i).toNat)
        case atStart => exact ⟨0, Nat.zero_le _, rfl, h, ho, hB⟩
        case round =>
          obtain ⟨m, hm, rfl, k1, k2, k3⟩ := hrel
          have c0 := k1.c0
          have c1 := k1.c1
          have c2 := k1.c2
          by_cases hlt2 : m < S.length
          · have q33 := neq33
            have cn := str_cells k1.names m hlt2
            have cs := str_cells k2 m hlt2
            have hy : S[m]? = some (S.getD m ByteArray.empty) := by rw [List.getD_eq_getElem?_getD, List.getElem?_eq_getElem hlt2]; rfl
            have hym := hsz _ (List.mem_of_getElem? hy)
            obtain ⟨y, hyy⟩ : ∃ y, y = S.getD m ByteArray.empty := ⟨_, rfl⟩
            rw [← hyy] at cn cs hy hym
            have HY : Hid (S[m]? = some y) := hy
            clear hy hyy
            have d0 := held_cells k1.held (m * 4) (by omega)
            have d1 := held_cells k1.held (m * 4 + 1) (by omega)
            have d2 := held_cells k1.held (m * 4 + 2) (by omega)
            have d3 := held_cells k1.held (m * 4 + 3) (by omega)
            go_wp2
            go_quiet (fail)
            go_wp2_with (go_at_call 5; refine (account_there w.heap.size mo _ _ S y m _ (k1.drewN nq) HY.out hym).mono ?_; rintro e w' ⟨rfl, rfl⟩)
            go_roundw
            case rel => exact ⟨m + 1, by omega, by go_num, k1.drewN nq, k2, ⟨k3.os, k3.tape, k3.output, k3.size, k3.block⟩⟩
            case measure => simp [intOf]; omega
          · go_wp2
            go_ret
            exact ⟨rfl, k3⟩

end Go.Proofs.Ybulkajks
