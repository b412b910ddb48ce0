import Derived.Test.YbulkajnkFmtRepeatN
namespace Go.Proofs.YbulkajnkFmt
open Go.RowKit

theorem type_any (s t : Int) (w : World) (h0 : 0 ≤ s) (h1 : s ≤ 255) (ht : t = 1 + s % 8) : Calls Ybaf.prog 5 #[.int .u8 s] w fun e w' => e = .returned (.int .u8 t) ∧ w = w' := by
  subst ht
  have hm : 0 ≤ s % 8 ∧ s % 8 ≤ 7 := by omega
  go_enter Ybaf.func5, Ybaf.ntmps5
  go_wp2
  go_ret
  exact ⟨rfl, rfl⟩

theorem wrap_is (b : Int) : IntKind.i64.wrap b = wrap64 b := by rw [IntWalk.i64_left]

theorem rep_cell {w : World} {base g n cap : Nat} {e : TypeId} {x : Value} (h : w.ownsRow base e 1 (.slice (some ⟨g, 0, none⟩) n cap) n (List.replicate n x)) (k : Nat) (hk : k < n) : w.cell? ⟨g, k, none⟩ = some x := by
  rw [h.cellAt k (by omega), List.getElem?_replicate, if_pos hk]

set_option maxRecDepth 100000 in
/-- The ways out that the law takes at once. -/
theorem law_out (s : Int) (nul : Bool) (bits : Int) (str : ByteArray) (n : Int) (w : World) (h : n < 0 ∨ 1024 < n) :
    Calls Ybaf.prog 3 #[.int .u8 s, .bool nul, .int .u64 bits, .string str, .int .i64 n] w fun e w' => e = .returned (.bool true) ∧ Below w.heap.size w w' := by
  rcases h with h | h
  · go_enter Ybaf.func3, Ybaf.ntmps3
    go_wp2
    go_ret
    exact ⟨rfl, Below.refl _ _⟩
  · have h' : ¬ n < 0 := by omega
    go_enter Ybaf.func3, Ybaf.ntmps3
    go_wp2
    go_ret
    exact ⟨rfl, Below.refl _ _⟩

set_option maxHeartbeats 1000000 in
set_option maxRecDepth 100000 in
theorem law_1 (s bits : Int) (str : ByteArray) (N : Nat) (w : World) (G : Tab w) (s0 : 0 ≤ s) (s1 : s ≤ 255) (hs : Hid ((1 : Int) = 1 + s % 8)) (h0 : 0 < N) (hN : N ≤ 1024) :
    Calls Ybaf.prog 3 #[.int .u8 s, .bool false, .int .u64 bits, .string str, .int .i64 N] w fun e w' => e = .returned (.bool true) ∧ Below w.heap.size w w' := by
  have q27 := neq_nil27
  have hn0 : decide ((N : Int) < 0) = false := by simp
  have hn1 : decide ((1024 : Int) < (N : Int)) = false := by simp; omega
  have GT := G.kept (Turn.alloc w (.cells #[.int .u8 1, .bool false, .int .u64 bits, .string str] 26) (fun _ => False)) id
  go_enter Ybaf.func3, Ybaf.ntmps3
  go_wp2_with (first
    | (go_at_call 5; refine (type_any s 1 w s0 s1 hs.out).mono ?_; rintro e w' ⟨rfl, rfl⟩)
    | (go_at_call 6; refine (repeat_1 N 1 bits str _ GT (.inl ⟨rfl, rfl⟩) hN).mono ?_; rintro e w1 ⟨so, sc, rfl, ko, kb⟩; simp only [va]))
  obtain ⟨g, rfl⟩ := row_some ko h0
  have glt := (ko.lt g rfl).2
  have kbel : Below w.heap.size w w1 := ((Below.refl _ _).alloc (Nat.le_refl _) _).trans (kb.mono (by simp))
  go_loop [24] (fun i => ∃ k : Nat, k ≤ N ∧ i = .int .i64 k) (fun i => N - (intOf i).toNat)
  case atStart => exact ⟨0, Nat.zero_le _, rfl⟩
  case round =>
    obtain ⟨k, hk, rfl⟩ := hrel
    by_cases hlt : k < N
    · have ck := rep_cell ko k hlt
      go_wp2
      go_round
      case rel => exact ⟨k + 1, by omega, by go_num⟩
      case measure => simp [intOf]; omega
    · go_wp2
      refine wp_loop_rounds 1 ?_
      rw [rounds_succ]
      go_wp2
      refine wp_loop_rounds 1 ?_
      rw [rounds_succ]
      go_wp2
      refine wp_loop_rounds 1 ?_
      rw [rounds_succ]
      go_wp2
      refine wp_loop_rounds 1 ?_
      rw [rounds_succ]
      go_wp2
      go_ret
      exact ⟨rfl, kbel.alloc kbel.size _⟩

end Go.Proofs.YbulkajnkFmt
