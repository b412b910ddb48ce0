import Derived.Test.YbulkajnkFmtLawA
namespace Go.Proofs.YbulkajnkFmt
open Go.RowKit

set_option maxHeartbeats 1000000 in
set_option maxRecDepth 100000 in
theorem lawZN_1 (s bits : Int) (str : ByteArray) (w : World) (s0 : 0 ≤ s) (s1 : s ≤ 255) (hs : Hid ((1 : Int) = 1 + s % 8)) :
    Calls Ybaf.prog 3 #[.int .u8 s, .bool true, .int .u64 bits, .string str, .int .i64 0] w fun e w' => e = .returned (.bool true) ∧ Below w.heap.size w w' := by
  have q27 := neq_nil27
  go_enter Ybaf.func3, Ybaf.ntmps3
  go_wp2_with (first
    | (go_at_call 5; refine (type_any s 1 w s0 s1 hs.out).mono ?_; rintro e w' ⟨rfl, rfl⟩)
    | (go_at_call 6; refine (repeatZ 1 bits str _).mono ?_; rintro e w1 ⟨rfl, kb⟩; simp only [va]))
  have kbel : Below w.heap.size w w1 := ((Below.refl _ _).alloc (Nat.le_refl _) _).trans (kb.mono (by simp))
  refine wp_loop_rounds 1 ?_
  rw [rounds_succ]
  go_wp2
  refine wp_loop_rounds 1 ?_
  rw [rounds_succ]
  go_wp2
  refine wp_loop_rounds 1 ?_
  rw [rounds_succ]
  go_wp2
  refine wp_loop_rounds 1 ?_
  rw [rounds_succ]
  go_wp2
  refine wp_loop_rounds 1 ?_
  rw [rounds_succ]
  go_wp2
  go_ret
  exact ⟨rfl, kbel.alloc kbel.size _⟩

set_option maxHeartbeats 1000000 in
set_option maxRecDepth 100000 in
theorem lawZN_2 (s bits : Int) (str : ByteArray) (w : World) (s0 : 0 ≤ s) (s1 : s ≤ 255) (hs : Hid ((2 : Int) = 1 + s % 8)) :
    Calls Ybaf.prog 3 #[.int .u8 s, .bool true, .int .u64 bits, .string str, .int .i64 0] w fun e w' => e = .returned (.bool true) ∧ Below w.heap.size w w' := by
  have q27 := neq_nil27
  go_enter Ybaf.func3, Ybaf.ntmps3
  go_wp2_with (first
    | (go_at_call 5; refine (type_any s 2 w s0 s1 hs.out).mono ?_; rintro e w' ⟨rfl, rfl⟩)
    | (go_at_call 6; refine (repeatZ 2 bits str _).mono ?_; rintro e w1 ⟨rfl, kb⟩; simp only [va]))
  have kbel : Below w.heap.size w w1 := ((Below.refl _ _).alloc (Nat.le_refl _) _).trans (kb.mono (by simp))
  refine wp_loop_rounds 1 ?_
  rw [rounds_succ]
  go_wp2
  refine wp_loop_rounds 1 ?_
  rw [rounds_succ]
  go_wp2
  refine wp_loop_rounds 1 ?_
  rw [rounds_succ]
  go_wp2
  refine wp_loop_rounds 1 ?_
  rw [rounds_succ]
  go_wp2
  refine wp_loop_rounds 1 ?_
  rw [rounds_succ]
  go_wp2
  go_ret
  exact ⟨rfl, kbel.alloc kbel.size _⟩

set_option maxHeartbeats 1000000 in
set_option maxRecDepth 100000 in
theorem lawZN_3 (s bits : Int) (str : ByteArray) (w : World) (s0 : 0 ≤ s) (s1 : s ≤ 255) (hs : Hid ((3 : Int) = 1 + s % 8)) :
    Calls Ybaf.prog 3 #[.int .u8 s, .bool true, .int .u64 bits, .string str, .int .i64 0] w fun e w' => e = .returned (.bool true) ∧ Below w.heap.size w w' := by
  have q27 := neq_nil27
  go_enter Ybaf.func3, Ybaf.ntmps3
  go_wp2_with (first
    | (go_at_call 5; refine (type_any s 3 w s0 s1 hs.out).mono ?_; rintro e w' ⟨rfl, rfl⟩)
    | (go_at_call 6; refine (repeatZ 3 bits str _).mono ?_; rintro e w1 ⟨rfl, kb⟩; simp only [va]))
  have kbel : Below w.heap.size w w1 := ((Below.refl _ _).alloc (Nat.le_refl _) _).trans (kb.mono (by simp))
  refine wp_loop_rounds 1 ?_
  rw [rounds_succ]
  go_wp2
  refine wp_loop_rounds 1 ?_
  rw [rounds_succ]
  go_wp2
  refine wp_loop_rounds 1 ?_
  rw [rounds_succ]
  go_wp2
  refine wp_loop_rounds 1 ?_
  rw [rounds_succ]
  go_wp2
  refine wp_loop_rounds 1 ?_
  rw [rounds_succ]
  go_wp2
  go_ret
  exact ⟨rfl, kbel.alloc kbel.size _⟩

set_option maxHeartbeats 1000000 in
set_option maxRecDepth 100000 in
theorem lawZN_4 (s bits : Int) (str : ByteArray) (w : World) (s0 : 0 ≤ s) (s1 : s ≤ 255) (hs : Hid ((4 : Int) = 1 + s % 8)) :
    Calls Ybaf.prog 3 #[.int .u8 s, .bool true, .int .u64 bits, .string str, .int .i64 0] w fun e w' => e = .returned (.bool true) ∧ Below w.heap.size w w' := by
  have q27 := neq_nil27
  go_enter Ybaf.func3, Ybaf.ntmps3
  go_wp2_with (first
    | (go_at_call 5; refine (type_any s 4 w s0 s1 hs.out).mono ?_; rintro e w' ⟨rfl, rfl⟩)
    | (go_at_call 6; refine (repeatZ 4 bits str _).mono ?_; rintro e w1 ⟨rfl, kb⟩; simp only [va]))
  have kbel : Below w.heap.size w w1 := ((Below.refl _ _).alloc (Nat.le_refl _) _).trans (kb.mono (by simp))
  refine wp_loop_rounds 1 ?_
  rw [rounds_succ]
  go_wp2
  refine wp_loop_rounds 1 ?_
  rw [rounds_succ]
  go_wp2
  refine wp_loop_rounds 1 ?_
  rw [rounds_succ]
  go_wp2
  refine wp_loop_rounds 1 ?_
  rw [rounds_succ]
  go_wp2
  refine wp_loop_rounds 1 ?_
  rw [rounds_succ]
  go_wp2
  go_ret
  exact ⟨rfl, kbel.alloc kbel.size _⟩

set_option maxHeartbeats 1000000 in
set_option maxRecDepth 100000 in
theorem lawZN_5 (s bits : Int) (str : ByteArray) (w : World) (s0 : 0 ≤ s) (s1 : s ≤ 255) (hs : Hid ((5 : Int) = 1 + s % 8)) :
    Calls Ybaf.prog 3 #[.int .u8 s, .bool true, .int .u64 bits, .string str, .int .i64 0] w fun e w' => e = .returned (.bool true) ∧ Below w.heap.size w w' := by
  have q27 := neq_nil27
  go_enter Ybaf.func3, Ybaf.ntmps3
  go_wp2_with (first
    | (go_at_call 5; refine (type_any s 5 w s0 s1 hs.out).mono ?_; rintro e w' ⟨rfl, rfl⟩)
    | (go_at_call 6; refine (repeatZ 5 bits str _).mono ?_; rintro e w1 ⟨rfl, kb⟩; simp only [va]))
  have kbel : Below w.heap.size w w1 := ((Below.refl _ _).alloc (Nat.le_refl _) _).trans (kb.mono (by simp))
  refine wp_loop_rounds 1 ?_
  rw [rounds_succ]
  go_wp2
  refine wp_loop_rounds 1 ?_
  rw [rounds_succ]
  go_wp2
  refine wp_loop_rounds 1 ?_
  rw [rounds_succ]
  go_wp2
  refine wp_loop_rounds 1 ?_
  rw [rounds_succ]
  go_wp2
  refine wp_loop_rounds 1 ?_
  rw [rounds_succ]
  go_wp2
  go_ret
  exact ⟨rfl, kbel.alloc kbel.size _⟩

set_option maxHeartbeats 1000000 in
set_option maxRecDepth 100000 in
theorem lawZN_6 (s bits : Int) (str : ByteArray) (w : World) (s0 : 0 ≤ s) (s1 : s ≤ 255) (hs : Hid ((6 : Int) = 1 + s % 8)) :
    Calls Ybaf.prog 3 #[.int .u8 s, .bool true, .int .u64 bits, .string str, .int .i64 0] w fun e w' => e = .returned (.bool true) ∧ Below w.heap.size w w' := by
  have q27 := neq_nil27
  go_enter Ybaf.func3, Ybaf.ntmps3
  go_wp2_with (first
    | (go_at_call 5; refine (type_any s 6 w s0 s1 hs.out).mono ?_; rintro e w' ⟨rfl, rfl⟩)
    | (go_at_call 6; refine (repeatZ 6 bits str _).mono ?_; rintro e w1 ⟨rfl, kb⟩; simp only [va]))
  have kbel : Below w.heap.size w w1 := ((Below.refl _ _).alloc (Nat.le_refl _) _).trans (kb.mono (by simp))
  refine wp_loop_rounds 1 ?_
  rw [rounds_succ]
  go_wp2
  refine wp_loop_rounds 1 ?_
  rw [rounds_succ]
  go_wp2
  refine wp_loop_rounds 1 ?_
  rw [rounds_succ]
  go_wp2
  refine wp_loop_rounds 1 ?_
  rw [rounds_succ]
  go_wp2
  refine wp_loop_rounds 1 ?_
  rw [rounds_succ]
  go_wp2
  go_ret
  exact ⟨rfl, kbel.alloc kbel.size _⟩

set_option maxHeartbeats 1000000 in
set_option maxRecDepth 100000 in
theorem lawZN_7 (s bits : Int) (str : ByteArray) (w : World) (s0 : 0 ≤ s) (s1 : s ≤ 255) (hs : Hid ((7 : Int) = 1 + s % 8)) :
    Calls Ybaf.prog 3 #[.int .u8 s, .bool true, .int .u64 bits, .string str, .int .i64 0] w fun e w' => e = .returned (.bool true) ∧ Below w.heap.size w w' := by
  have q27 := neq_nil27
  go_enter Ybaf.func3, Ybaf.ntmps3
  go_wp2_with (first
    | (go_at_call 5; refine (type_any s 7 w s0 s1 hs.out).mono ?_; rintro e w' ⟨rfl, rfl⟩)
    | (go_at_call 6; refine (repeatZ 7 bits str _).mono ?_; rintro e w1 ⟨rfl, kb⟩; simp only [va]))
  have kbel : Below w.heap.size w w1 := ((Below.refl _ _).alloc (Nat.le_refl _) _).trans (kb.mono (by simp))
  refine wp_loop_rounds 1 ?_
  rw [rounds_succ]
  go_wp2
  refine wp_loop_rounds 1 ?_
  rw [rounds_succ]
  go_wp2
  refine wp_loop_rounds 1 ?_
  rw [rounds_succ]
  go_wp2
  refine wp_loop_rounds 1 ?_
  rw [rounds_succ]
  go_wp2
  refine wp_loop_rounds 1 ?_
  rw [rounds_succ]
  go_wp2
  go_ret
  exact ⟨rfl, kbel.alloc kbel.size _⟩

set_option maxHeartbeats 1000000 in
set_option maxRecDepth 100000 in
theorem lawZN_8 (s bits : Int) (str : ByteArray) (w : World) (s0 : 0 ≤ s) (s1 : s ≤ 255) (hs : Hid ((8 : Int) = 1 + s % 8)) :
    Calls Ybaf.prog 3 #[.int .u8 s, .bool true, .int .u64 bits, .string str, .int .i64 0] w fun e w' => e = .returned (.bool true) ∧ Below w.heap.size w w' := by
  have q27 := neq_nil27
  go_enter Ybaf.func3, Ybaf.ntmps3
  go_wp2_with (first
    | (go_at_call 5; refine (type_any s 8 w s0 s1 hs.out).mono ?_; rintro e w' ⟨rfl, rfl⟩)
    | (go_at_call 6; refine (repeatZ 8 bits str _).mono ?_; rintro e w1 ⟨rfl, kb⟩; simp only [va]))
  have kbel : Below w.heap.size w w1 := ((Below.refl _ _).alloc (Nat.le_refl _) _).trans (kb.mono (by simp))
  refine wp_loop_rounds 1 ?_
  rw [rounds_succ]
  go_wp2
  refine wp_loop_rounds 1 ?_
  rw [rounds_succ]
  go_wp2
  refine wp_loop_rounds 1 ?_
  rw [rounds_succ]
  go_wp2
  refine wp_loop_rounds 1 ?_
  rw [rounds_succ]
  go_wp2
  refine wp_loop_rounds 1 ?_
  rw [rounds_succ]
  go_wp2
  go_ret
  exact ⟨rfl, kbel.alloc kbel.size _⟩

end Go.Proofs.YbulkajnkFmt
