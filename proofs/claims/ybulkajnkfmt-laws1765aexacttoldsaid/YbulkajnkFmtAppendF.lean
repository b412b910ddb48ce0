import Derived.Test.YbulkajnkFmtAppend
namespace Go.Proofs.YbulkajnkFmt
open Go.RowKit

theorem frombits (bits : Int) (w : World) : (callFunc 14 #[.int .u64 bits]).run Ybaf.prog w = .ok (Next.value (.float .f64 bits.toNat)) w := by kernel_rfl
theorem tobits (b : Nat) (w : World) : (callFunc 7 #[.float .f64 b]).run Ybaf.prog w = .ok (Next.value (.int .u64 b)) w := by kernel_rfl

set_option maxHeartbeats 1000000 in
set_option maxRecDepth 100000 in
theorem append_4 (V base n : Nat) (t : Int) (bits : Int) (str : ByteArray) (sv : Value) (xs : List Value) (w : World) (G : Tab w) (ht : TL t 4) (hV : IsVec w V t 4 sv (.slice none 0 0)) (ho : w.ownsRow base 36 1 sv n xs) (hVb : V < base) (hb1 : base ≤ w.heap.size) (hn : n ≤ 2000) :
    Calls Ybaf.prog 11 #[.pointer (some ⟨V, 0, none⟩), .agg #[.int .u8 t, .bool false, .int .u64 bits, .string str]] w fun e w' => e = .returned (.tuple #[]) ∧ Apd w w' V base t 4 36 sv n (xs ++ [.float .f64 bits.toNat]) := by
  obtain ⟨i0, hi, hz, hs, hb⟩ := info_parts Ybaf.info36
  have q27 := neq_nil27
  have hfb := frombits
  obtain ⟨so, sc, rfl⟩ := row_shape ho
  have c0 : w.cell? ⟨V, 0, none⟩ = some (.int .u8 t) := hV.cell 0
  have c1 : w.cell? ⟨V, 4, none⟩ = some (.slice so n sc) := hV.cell 4
  have c6 : w.cell? ⟨V, 6, none⟩ = some (.slice none 0 0) := hV.cell 6
  have fz := hV.fz
  have hlt := hV.lt
  have nV := row_ne ho hVb
  have S1 : Hid ((((w.alloc (.cells #[.int .u8 t, .bool false, .int .u64 bits, .string str] 26)).alloc (.cells #[.float .f64 bits.toNat] 36)).drew).ownsRow base 36 1 (.slice so n sc) n xs) := (ho.alloc _).alloc _
  have S2 : Hid (∀ j u, [((.float .f64 bits.toNat) : Value)][j]? = some u → (((w.alloc (.cells #[.int .u8 t, .bool false, .int .u64 bits, .string str] 26)).alloc (.cells #[.float .f64 bits.toNat] 36)).drew).cell? ((⟨w.heap.size + 1, 0, none⟩ : Addr).add j) = some u) := cell_one_at (w.alloc (.cells #[.int .u8 t, .bool false, .int .u64 bits, .string str] 26)) _ _ _ (by simp)
  have S3 : Hid (base ≤ (((w.alloc (.cells #[.int .u8 t, .bool false, .int .u64 bits, .string str] 26)).alloc (.cells #[.float .f64 bits.toNat] 36)).drew).heap.size) := by show base ≤ ((w.alloc _).alloc _).heap.size; simp; omega
  go_enter Ybaf.func11, Ybaf.ntmps11
  go_wp2_with (go_at_call 12; refine (layout_any t 4 ht _ (G.kept (Turn.alloc _ _ (fun _ => False)) id)).mono ?_; rintro e w' ⟨rfl, rfl⟩)
  go_region_law (refine step_append_at rfl (.tmp 81) (.tmp 85) 30 rfl base 36 i0 (.float .f64 0) 1 8 Ybaf.underlying30 hi hz hs hb rfl (by decide) (.slice so n sc) n xs (by simp [Act.eval]) S1.out ⟨w.heap.size + 1, 0, none⟩ 1 [.float .f64 bits.toNat] (by simp [Act.eval]) rfl S2.out (one_cell rfl) (by unfold maxLen; omega) (by omega) S3.out ?_; intro g c w1 r1 t1 l1; have d1 : w1.cell? ⟨V, 4, none⟩ = some (.slice so n sc) := cell_step2 c1 (grow_drew t1) nV; have e1 : w1.frozen? ⟨V, 4, none⟩ = false := frozen_step2 (fz 4) (grow_drew t1) hlt nV)
  all_goals (go_wp2; go_end0; exact ⟨rfl, apd_of hV ho hVb r1 (grow_drew t1) 4 rfl rfl⟩)

end Go.Proofs.YbulkajnkFmt
