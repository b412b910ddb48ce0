import Derived.Test.YbulkajnkFmtLawA
namespace Go.Proofs.YbulkajnkFmt
open Go.RowKit

set_option maxHeartbeats 1000000 in
set_option maxRecDepth 100000 in
theorem lawN_1 (s bits : Int) (str : ByteArray) (N : Nat) (w : World) (G : Tab w) (s0 : 0 ≤ s) (s1 : s ≤ 255) (hs : Hid ((1 : Int) = 1 + s % 8)) (h0 : 0 < N) (hN : N ≤ 1024) :
    Calls Ybaf.prog 3 #[.int .u8 s, .bool true, .int .u64 bits, .string str, .int .i64 N] w fun e w' => e = .returned (.bool true) ∧ Below w.heap.size w w' := by
  have hn0 : decide ((N : Int) < 0) = false := by simp
  have hn1 : decide ((1024 : Int) < (N : Int)) = false := by simp; omega
  have hn2 : decide ((0 : Int) < (N : Int)) = true := by simp; omega
  have GT := G.kept (Turn.alloc w (.cells #[.int .u8 1, .bool true, .int .u64 bits, .string str] 26) (fun _ => False)) id
  go_enter Ybaf.func3, Ybaf.ntmps3
  go_wp2_with (first
    | (go_at_call 5; refine (type_any s 1 w s0 s1 hs.out).mono ?_; rintro e w' ⟨rfl, rfl⟩)
    | (go_at_call 6; refine (repeatN_1 N 1 bits str _ GT (.inl ⟨rfl, rfl⟩) h0 hN).mono ?_; rintro e w1 ⟨g, sc, gn, nc, rfl, ko, kn, kb⟩; simp only [va]))
  have glt := (ko.lt g rfl).2
  have gnlt := (kn.lt gn rfl).2
  have kbel : Below w.heap.size w w1 := ((Below.refl _ _).alloc (Nat.le_refl _) _).trans (kb.mono (by simp))
  go_loop [19] (fun i => ∃ k : Nat, k ≤ N ∧ i = .int .i64 k) (fun i => N - (intOf i).toNat)
  case atStart => exact ⟨0, Nat.zero_le _, rfl⟩
  case round =>
    obtain ⟨k, hk, rfl⟩ := hrel
    by_cases hlt : k < N
    · have ck := rep_cell kn k hlt
      go_wp2
      go_round
      case rel => exact ⟨k + 1, by omega, by go_num⟩
      case measure => simp [intOf]; omega
    · clear hk
      go_wp2
      go_loop [24] (fun i => ∃ m : Nat, m ≤ N ∧ i = .int .i64 m) (fun i => N - (intOf i).toNat)
      case atStart => exact ⟨0, Nat.zero_le _, rfl⟩
      case round =>
        obtain ⟨m, hm, rfl⟩ := hrel
        by_cases hlt2 : m < N
        · have ck := rep_cell ko m hlt2
          go_wp2
          go_round
          case rel => exact ⟨m + 1, by omega, by go_num⟩
          case measure => simp [intOf]; omega
        · go_wp2
          refine wp_loop_rounds 1 ?_
          rw [rounds_succ]
          go_wp2
          refine wp_loop_rounds 1 ?_
          rw [rounds_succ]
          go_wp2
          refine wp_loop_rounds 1 ?_
          rw [rounds_succ]
          go_wp2
          refine wp_loop_rounds 1 ?_
          rw [rounds_succ]
          go_wp2
          go_ret
          exact ⟨rfl, kbel.alloc kbel.size _⟩

set_option maxHeartbeats 1000000 in
set_option maxRecDepth 100000 in
theorem lawN_2 (s bits : Int) (str : ByteArray) (N : Nat) (w : World) (G : Tab w) (s0 : 0 ≤ s) (s1 : s ≤ 255) (hs : Hid ((2 : Int) = 1 + s % 8)) (h0 : 0 < N) (hN : N ≤ 1024) :
    Calls Ybaf.prog 3 #[.int .u8 s, .bool true, .int .u64 bits, .string str, .int .i64 N] w fun e w' => e = .returned (.bool true) ∧ Below w.heap.size w w' := by
  have hn0 : decide ((N : Int) < 0) = false := by simp
  have hn1 : decide ((1024 : Int) < (N : Int)) = false := by simp; omega
  have hn2 : decide ((0 : Int) < (N : Int)) = true := by simp; omega
  have GT := G.kept (Turn.alloc w (.cells #[.int .u8 2, .bool true, .int .u64 bits, .string str] 26) (fun _ => False)) id
  go_enter Ybaf.func3, Ybaf.ntmps3
  go_wp2_with (first
    | (go_at_call 5; refine (type_any s 2 w s0 s1 hs.out).mono ?_; rintro e w' ⟨rfl, rfl⟩)
    | (go_at_call 6; refine (repeatN_2 N 2 bits str _ GT (.inr (.inl ⟨rfl, rfl⟩)) h0 hN).mono ?_; rintro e w1 ⟨g, sc, gn, nc, rfl, ko, kn, kb⟩; simp only [va]))
  have glt := (ko.lt g rfl).2
  have gnlt := (kn.lt gn rfl).2
  have kbel : Below w.heap.size w w1 := ((Below.refl _ _).alloc (Nat.le_refl _) _).trans (kb.mono (by simp))
  go_loop [19] (fun i => ∃ k : Nat, k ≤ N ∧ i = .int .i64 k) (fun i => N - (intOf i).toNat)
  case atStart => exact ⟨0, Nat.zero_le _, rfl⟩
  case round =>
    obtain ⟨k, hk, rfl⟩ := hrel
    by_cases hlt : k < N
    · have ck := rep_cell kn k hlt
      go_wp2
      go_round
      case rel => exact ⟨k + 1, by omega, by go_num⟩
      case measure => simp [intOf]; omega
    · clear hk
      go_wp2
      refine wp_loop_rounds 1 ?_
      rw [rounds_succ]
      go_wp2
      go_loop [25] (fun i => ∃ m : Nat, m ≤ N ∧ i = .int .i64 m) (fun i => N - (intOf i).toNat)
      case atStart => exact ⟨0, Nat.zero_le _, rfl⟩
      case round =>
        obtain ⟨m, hm, rfl⟩ := hrel
        by_cases hlt2 : m < N
        · have ck := rep_cell ko m hlt2
          go_wp2
          go_round
          case rel => exact ⟨m + 1, by omega, by go_num⟩
          case measure => simp [intOf]; omega
        · go_wp2
          refine wp_loop_rounds 1 ?_
          rw [rounds_succ]
          go_wp2
          refine wp_loop_rounds 1 ?_
          rw [rounds_succ]
          go_wp2
          refine wp_loop_rounds 1 ?_
          rw [rounds_succ]
          go_wp2
          go_ret
          exact ⟨rfl, kbel.alloc kbel.size _⟩

set_option maxHeartbeats 1000000 in
set_option maxRecDepth 100000 in
theorem lawN_3 (s bits : Int) (str : ByteArray) (N : Nat) (w : World) (G : Tab w) (s0 : 0 ≤ s) (s1 : s ≤ 255) (hs : Hid ((3 : Int) = 1 + s % 8)) (h0 : 0 < N) (hN : N ≤ 1024) :
    Calls Ybaf.prog 3 #[.int .u8 s, .bool true, .int .u64 bits, .string str, .int .i64 N] w fun e w' => e = .returned (.bool true) ∧ Below w.heap.size w w' := by
  have hn0 : decide ((N : Int) < 0) = false := by simp
  have hn1 : decide ((1024 : Int) < (N : Int)) = false := by simp; omega
  have hn2 : decide ((0 : Int) < (N : Int)) = true := by simp; omega
  have GT := G.kept (Turn.alloc w (.cells #[.int .u8 3, .bool true, .int .u64 bits, .string str] 26) (fun _ => False)) id
  go_enter Ybaf.func3, Ybaf.ntmps3
  go_wp2_with (first
    | (go_at_call 5; refine (type_any s 3 w s0 s1 hs.out).mono ?_; rintro e w' ⟨rfl, rfl⟩)
    | (go_at_call 6; refine (repeatN_3 N 3 bits str _ GT (.inr (.inr (.inl ⟨rfl, rfl⟩))) h0 hN).mono ?_; rintro e w1 ⟨g, sc, gn, nc, rfl, ko, kn, kb⟩; simp only [va]))
  have glt := (ko.lt g rfl).2
  have gnlt := (kn.lt gn rfl).2
  have kbel : Below w.heap.size w w1 := ((Below.refl _ _).alloc (Nat.le_refl _) _).trans (kb.mono (by simp))
  go_loop [19] (fun i => ∃ k : Nat, k ≤ N ∧ i = .int .i64 k) (fun i => N - (intOf i).toNat)
  case atStart => exact ⟨0, Nat.zero_le _, rfl⟩
  case round =>
    obtain ⟨k, hk, rfl⟩ := hrel
    by_cases hlt : k < N
    · have ck := rep_cell kn k hlt
      go_wp2
      go_round
      case rel => exact ⟨k + 1, by omega, by go_num⟩
      case measure => simp [intOf]; omega
    · clear hk
      go_wp2
      refine wp_loop_rounds 1 ?_
      rw [rounds_succ]
      go_wp2
      refine wp_loop_rounds 1 ?_
      rw [rounds_succ]
      go_wp2
      go_loop [26] (fun i => ∃ m : Nat, m ≤ N ∧ i = .int .i64 m) (fun i => N - (intOf i).toNat)
      case atStart => exact ⟨0, Nat.zero_le _, rfl⟩
      case round =>
        obtain ⟨m, hm, rfl⟩ := hrel
        by_cases hlt2 : m < N
        · have ck := rep_cell ko m hlt2
          go_wp2
          go_round
          case rel => exact ⟨m + 1, by omega, by go_num⟩
          case measure => simp [intOf]; omega
        · go_wp2
          refine wp_loop_rounds 1 ?_
          rw [rounds_succ]
          go_wp2
          refine wp_loop_rounds 1 ?_
          rw [rounds_succ]
          go_wp2
          go_ret
          exact ⟨rfl, kbel.alloc kbel.size _⟩

set_option maxHeartbeats 1000000 in
set_option maxRecDepth 100000 in
theorem lawN_4 (s bits : Int) (str : ByteArray) (N : Nat) (w : World) (G : Tab w) (s0 : 0 ≤ s) (s1 : s ≤ 255) (hs : Hid ((4 : Int) = 1 + s % 8)) (h0 : 0 < N) (hN : N ≤ 1024) :
    Calls Ybaf.prog 3 #[.int .u8 s, .bool true, .int .u64 bits, .string str, .int .i64 N] w fun e w' => e = .returned (.bool true) ∧ Below w.heap.size w w' := by
  have htb := tobits
  have hn0 : decide ((N : Int) < 0) = false := by simp
  have hn1 : decide ((1024 : Int) < (N : Int)) = false := by simp; omega
  have hn2 : decide ((0 : Int) < (N : Int)) = true := by simp; omega
  have GT := G.kept (Turn.alloc w (.cells #[.int .u8 4, .bool true, .int .u64 bits, .string str] 26) (fun _ => False)) id
  go_enter Ybaf.func3, Ybaf.ntmps3
  go_wp2_with (first
    | (go_at_call 5; refine (type_any s 4 w s0 s1 hs.out).mono ?_; rintro e w' ⟨rfl, rfl⟩)
    | (go_at_call 6; refine (repeatN_4 N 4 bits str _ GT (.inr (.inr (.inr (.inl ⟨rfl, rfl⟩)))) h0 hN).mono ?_; rintro e w1 ⟨g, sc, gn, nc, rfl, ko, kn, kb⟩; simp only [va]))
  have glt := (ko.lt g rfl).2
  have gnlt := (kn.lt gn rfl).2
  have kbel : Below w.heap.size w w1 := ((Below.refl _ _).alloc (Nat.le_refl _) _).trans (kb.mono (by simp))
  go_loop [19] (fun i => ∃ k : Nat, k ≤ N ∧ i = .int .i64 k) (fun i => N - (intOf i).toNat)
  case atStart => exact ⟨0, Nat.zero_le _, rfl⟩
  case round =>
    obtain ⟨k, hk, rfl⟩ := hrel
    by_cases hlt : k < N
    · have ck := rep_cell kn k hlt
      go_wp2
      go_round
      case rel => exact ⟨k + 1, by omega, by go_num⟩
      case measure => simp [intOf]; omega
    · clear hk
      go_wp2
      refine wp_loop_rounds 1 ?_
      rw [rounds_succ]
      go_wp2
      refine wp_loop_rounds 1 ?_
      rw [rounds_succ]
      go_wp2
      refine wp_loop_rounds 1 ?_
      rw [rounds_succ]
      go_wp2
      go_loop [27] (fun i => ∃ m : Nat, m ≤ N ∧ i = .int .i64 m) (fun i => N - (intOf i).toNat)
      case atStart => exact ⟨0, Nat.zero_le _, rfl⟩
      case round =>
        obtain ⟨m, hm, rfl⟩ := hrel
        by_cases hlt2 : m < N
        · have ck := rep_cell ko m hlt2
          go_wp2
          go_round
          case rel => exact ⟨m + 1, by omega, by go_num⟩
          case measure => simp [intOf]; omega
        · go_wp2
          refine wp_loop_rounds 1 ?_
          rw [rounds_succ]
          go_wp2
          go_ret
          exact ⟨rfl, kbel.alloc kbel.size _⟩

end Go.Proofs.YbulkajnkFmt
