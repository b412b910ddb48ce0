import Derived.Test.YbulkajksParts
namespace Go.Proofs.Ybulkajks
open Go.RowKit Go.Maps

set_option maxRecDepth 100000 in
theorem index_none (ao : Option Addr) (cap : Nat) (s : ByteArray) (w : World) :
    Calls Yba.prog 4 #[.slice ao 0 cap, .string s] w fun e w' => e = .returned (.int .i64 (-1)) ∧ w' = w := by
  go_enter Yba.func4, Yba.ntmps4
  go_wp2
  refine wp_loop_rounds 1 ?_
  rw [rounds_succ]
  go_wp2
  go_ret
  exact ⟨rfl, rfl⟩

set_option maxHeartbeats 400000 in
set_option maxRecDepth 100000 in
theorem index_out (g n cap : Nat) (S : List ByteArray) (s : ByteArray) (w : World) (hn : n ≤ 1024) (hl : S.length = n)
    (hc : ∀ j, j < n → w.cell? ⟨g, j, none⟩ = some (.string (S.getD j ByteArray.empty))) (hs : s ∉ S) :
    Calls Yba.prog 4 #[.slice (some ⟨g, 0, none⟩) n cap, .string s] w fun e w' => e = .returned (.int .i64 (-1)) ∧ w' = w := by
  go_enter Yba.func4, Yba.ntmps4
  go_wp2
  go_loop [5] (fun i => ∃ k : Nat, k ≤ n ∧ i = .int .i64 k) (fun i => n - (intOf i).toNat)
  case atStart => exact ⟨0, Nat.zero_le _, rfl⟩
  case round =>
    obtain ⟨k, hk, rfl⟩ := hrel
    by_cases hlt : k < n
    · have hck := hc k hlt
      obtain ⟨x, hx⟩ : ∃ x, x = S.getD k ByteArray.empty := ⟨_, rfl⟩
      have hxs : x ≠ s := fun e => hs (by rw [← e, hx, List.getD_eq_getElem?_getD, List.getElem?_eq_getElem (by omega)]; simp)
      have ht := beq_ne hxs
      rw [← hx] at hck
      clear hx hxs hc hs
      go_wp2
      go_round
      case rel => exact ⟨k + 1, by omega, by go_num⟩
      case measure => simp [intOf]; omega
    · go_wp2
      go_ret
      exact ⟨rfl, rfl⟩

set_option maxHeartbeats 400000 in
set_option maxRecDepth 100000 in
theorem index_in (g n cap m : Nat) (S : List ByteArray) (s : ByteArray) (w : World) (hn : n ≤ 1024) (hl : S.length = n)
    (hc : ∀ j, j < n → w.cell? ⟨g, j, none⟩ = some (.string (S.getD j ByteArray.empty))) (hm : m < n) (hs : S.getD m ByteArray.empty = s) (hf : ∀ j, j < m → S.getD j ByteArray.empty ≠ s) :
    Calls Yba.prog 4 #[.slice (some ⟨g, 0, none⟩) n cap, .string s] w fun e w' => e = .returned (.int .i64 m) ∧ w' = w := by
  have HS : Hid (S.getD m ByteArray.empty = s) := hs
  clear hs
  go_enter Yba.func4, Yba.ntmps4
  go_wp2
  go_loop [5] (fun i => ∃ k : Nat, k ≤ m ∧ i = .int .i64 k) (fun i => n - (intOf i).toNat)
  case atStart => exact ⟨0, Nat.zero_le _, rfl⟩
  case round =>
    obtain ⟨k, hk, rfl⟩ := hrel
    by_cases hlt : k < m
    · have hck := hc k (by omega)
      obtain ⟨x, hx⟩ : ∃ x, x = S.getD k ByteArray.empty := ⟨_, rfl⟩
      have hxs : x ≠ s := by rw [hx]; exact hf k hlt
      have ht := beq_ne hxs
      rw [← hx] at hck
      clear hx hxs hf hc
      go_wp2
      go_round
      case rel => exact ⟨k + 1, by omega, by go_num⟩
      case measure => simp [intOf]; omega
    · obtain rfl : k = m := by omega
      have hck := hc k (by omega)
      rw [HS.out] at hck
      clear hf hc
      go_wp2
      go_ret
      exact ⟨rfl, rfl⟩

end Go.Proofs.Ybulkajks
