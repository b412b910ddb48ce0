import Derived.Test.YbulkajnkFmtBase
import Derived.Deep.RegionLaw
namespace Go.Proofs.YbulkajnkFmt
open Go.RowKit

/-- append onto a row of the call's own, as one step of a region that draws its order; the new slice's shape written out. -/
theorem step_append_at {P : Program} {ops : Array Oper} {o : Oper} {a : Act} {w : World} {K : Act → World → Prop} {Q : Exit → Act → World → Prop} {E : Prop}
    (hgd : o.guard = none) (s x : Operand) (t : TypeId) (ho : o.op = .call { callee := .builtin .append, args := #[s, x], argTypes := #[t, t] })
    (base : Nat) (e : TypeId) (i : TypeInfo) (z : Value) (size bytes : Nat) (ht : P.underlying t = some (.slice e)) (hi : P.info? e = some i) (hz : i.zero = some z)
    (hsize : i.size = size) (hby : i.bytes = bytes) (hzs : z.cells.size = size) (hsz : 0 < size)
    (v : Value) (n : Nat) (xs : List Value) (hs : a.eval s = v) (hown : w.ownsRow base e size v n xs)
    (ad : Addr) (c : Nat) (news : List Value) (hx : a.eval x = .slice (some ad) 1 c) (hl : news.length = 1 * size) (hnews : ∀ j u, news[j]? = some u → w.cell? (ad.add j) = some u) (h1 : ∀ u ∈ news, u.oneCell' = true)
    (h63 : n + 1 ≤ maxLen) (hbytes : (n + 1) * bytes ≤ 140737488355328) (hbase : base ≤ w.heap.size)
    (h : ∀ g cap w', w'.ownsRow base e size (.slice (some ⟨g, 0, none⟩) (n + 1) cap) (n + 1) (xs ++ news) → w.grownBy w' v.ownBlock → (v.ownBlock = some g ∨ g = w.heap.size) → K (a.put o.dst (.slice (some ⟨g, 0, none⟩) (n + 1) cap)) w') :
    if Region.wanted o (yielded ops a.tmps) = true then Oper.wp P o a w K Q else E := by
  have hw : Region.wanted o (yielded ops a.tmps) = true := by simp [Region.wanted, hgd]
  rw [if_pos hw]
  obtain ⟨v', w', hr, h2, h3, _, h5⟩ := run_append_own_at (P := P) w base t o.type e i z size bytes ht hi hz hsize hby hzs hsz v n xs hown ad 1 c news hl hnews h1 h63 hbytes hbase
  unfold Oper.wp
  simp [execOp, ho, resolve, invoke, builtin, hs, hx, hr, Result.andThen]
  rcases h2.2 with ⟨_, h0⟩ | ⟨g, cap, cur, rfl, _⟩
  · omega
  · refine h g cap w' h2 h3 ?_
    rcases h5 with e1 | e1
    · exact .inl (by simpa [Value.ownBlock] using e1.symm)
    · exact .inr (by simpa [Value.ownBlock] using e1)

theorem Ybaf.info4 : (Ybaf.prog.info? 4).map (fun i => (i.zero, i.size, i.bytes)) = some (some (.bool false), 1, 1) := by kernel_rfl
theorem Ybaf.info2 : (Ybaf.prog.info? 2).map (fun i => (i.zero, i.size, i.bytes)) = some (some (.int .i64 0), 1, 8) := by kernel_rfl
theorem Ybaf.info22 : (Ybaf.prog.info? 22).map (fun i => (i.zero, i.size, i.bytes)) = some (some (.int .u64 0), 1, 8) := by kernel_rfl
theorem Ybaf.info36 : (Ybaf.prog.info? 36).map (fun i => (i.zero, i.size, i.bytes)) = some (some (.float .f64 0), 1, 8) := by kernel_rfl
theorem Ybaf.info9 : (Ybaf.prog.info? 9).map (fun i => (i.zero, i.size, i.bytes)) = some (some (.string ByteArray.empty), 1, 16) := by kernel_rfl

theorem one_cell {x : Value} (h : x.oneCell' = true) : ∀ u ∈ [x], u.oneCell' = true := by
  intro u hu
  simp at hu
  subst hu
  exact h

theorem grow_drew {w w1 : World} {row : Option Nat} (t : w.drew.grownBy w1 row) : w.grownBy w1 row := ⟨t.os, t.tape, t.output, t.size, t.block⟩

/-- What Append leaves: the vector's own slice is one longer; nothing else has turned but its row and the vector. -/
def Apd (w w' : World) (V base : Nat) (t : Int) (l : Nat) (e : TypeId) (sv : Value) (n : Nat) (xs : List Value) : Prop :=
  ∃ g c, IsVec w' V t l (.slice (some ⟨g, 0, none⟩) (n + 1) c) (.slice none 0 0) ∧ w'.ownsRow base e 1 (.slice (some ⟨g, 0, none⟩) (n + 1) c) (n + 1) xs ∧ Turn w w' (fun k => k = V ∨ sv.ownBlock = some k)

theorem apd_of {w w1 w' : World} {V base n g c : Nat} {t : Int} {l : Nat} {e : TypeId} {sv : Value} {xs ys : List Value} {o o' : Obj} (hV : IsVec w V t l sv (.slice none 0 0)) (ho : w.ownsRow base e 1 sv n xs) (hVb : V < base)
    (r1 : w1.ownsRow base e 1 (.slice (some ⟨g, 0, none⟩) (n + 1) c) (n + 1) ys) (t1 : ((w.alloc o).alloc o').grownBy w1 sv.ownBlock) (j : Nat)
    (e1 : (va t l sv (.slice none 0 0)).setIfInBounds j (.slice (some ⟨g, 0, none⟩) (n + 1) c) = va t l (.slice (some ⟨g, 0, none⟩) (n + 1) c) (.slice none 0 0))
    (hw : w' = w1.setCell ⟨V, j, none⟩ (.slice (some ⟨g, 0, none⟩) (n + 1) c)) : Apd w w' V base t l e sv n ys := by
  subst hw
  have T1 : Turn w w1 (fun k => sv.ownBlock = some k) := ((Turn.alloc _ _ _).trans (Turn.alloc _ _ _)).trans (Turn.grown t1 (fun k e => e))
  have T2 : Turn w1 (w1.setCell ⟨V, j, none⟩ (.slice (some ⟨g, 0, none⟩) (n + 1) c)) (fun k => k = V) := Turn.setCell (bs := fun k => k = V) _ _ _ rfl
  have hg := (r1.lt g rfl).1
  exact ⟨g, c, (hV.kept T1 (row_ne ho hVb)).set j _ e1, T2.row r1 (fun k e => by simp [Value.ownBlock] at e; omega), (T1.weaken (fun k _ e => .inr e)).trans (T2.weaken (fun k _ e => .inl e))⟩

theorem neq_nil27 (w : World) (a : Option Addr) (n c : Nat) : (binOp .neq 27 (.slice a n c) (.slice none 0 0)).run Ybaf.prog w = .ok (.bool (!a.isNone)) w := run_neq_slice_nil_any w 27 4 a n c 0 0 Ybaf.underlying27

set_option maxHeartbeats 1000000 in
set_option maxRecDepth 100000 in
theorem append_1 (V base n : Nat) (t : Int) (bits : Int) (str : ByteArray) (sv : Value) (xs : List Value) (w : World) (G : Tab w) (ht : TL t 1) (hV : IsVec w V t 1 sv (.slice none 0 0)) (ho : w.ownsRow base 4 1 sv n xs) (hVb : V < base) (hb1 : base ≤ w.heap.size) (hn : n ≤ 2000) :
    Calls Ybaf.prog 11 #[.pointer (some ⟨V, 0, none⟩), .agg #[.int .u8 t, .bool false, .int .u64 bits, .string str]] w fun e w' => e = .returned (.tuple #[]) ∧ Apd w w' V base t 1 4 sv n (xs ++ [.bool (bits != 0)]) := by
  obtain ⟨i0, hi, hz, hs, hb⟩ := info_parts Ybaf.info4
  have q27 := neq_nil27
  obtain ⟨so, sc, rfl⟩ := row_shape ho
  have c0 : w.cell? ⟨V, 0, none⟩ = some (.int .u8 t) := hV.cell 0
  have c1 : w.cell? ⟨V, 1, none⟩ = some (.slice so n sc) := hV.cell 1
  have c6 : w.cell? ⟨V, 6, none⟩ = some (.slice none 0 0) := hV.cell 6
  have fz := hV.fz
  have hlt := hV.lt
  have nV := row_ne ho hVb
  have S1 : Hid ((((w.alloc (.cells #[.int .u8 t, .bool false, .int .u64 bits, .string str] 26)).alloc (.cells #[.bool (bits != 0)] 4)).drew).ownsRow base 4 1 (.slice so n sc) n xs) := (ho.alloc _).alloc _
  have S2 : Hid (∀ j u, [((.bool (bits != 0)) : Value)][j]? = some u → (((w.alloc (.cells #[.int .u8 t, .bool false, .int .u64 bits, .string str] 26)).alloc (.cells #[.bool (bits != 0)] 4)).drew).cell? ((⟨w.heap.size + 1, 0, none⟩ : Addr).add j) = some u) := cell_one_at (w.alloc (.cells #[.int .u8 t, .bool false, .int .u64 bits, .string str] 26)) _ _ _ (by simp)
  have S3 : Hid (base ≤ (((w.alloc (.cells #[.int .u8 t, .bool false, .int .u64 bits, .string str] 26)).alloc (.cells #[.bool (bits != 0)] 4)).drew).heap.size) := by show base ≤ ((w.alloc _).alloc _).heap.size; simp; omega
  go_enter Ybaf.func11, Ybaf.ntmps11
  go_wp2_with (go_at_call 12; refine (layout_any t 1 ht _ (G.kept (Turn.alloc _ _ (fun _ => False)) id)).mono ?_; rintro e w' ⟨rfl, rfl⟩)
  go_region_law (refine step_append_at rfl (.tmp 40) (.tmp 44) 27 rfl base 4 i0 (.bool false) 1 1 Ybaf.underlying27 hi hz hs hb rfl (by decide) (.slice so n sc) n xs (by simp [Act.eval]) S1.out ⟨w.heap.size + 1, 0, none⟩ 1 [.bool (bits != 0)] (by simp [Act.eval]) rfl S2.out (one_cell rfl) (by unfold maxLen; omega) (by omega) S3.out ?_; intro g c w1 r1 t1 l1; have d1 : w1.cell? ⟨V, 1, none⟩ = some (.slice so n sc) := cell_step2 c1 (grow_drew t1) nV; have e1 : w1.frozen? ⟨V, 1, none⟩ = false := frozen_step2 (fz 1) (grow_drew t1) hlt nV)
  all_goals (go_wp2; go_end0; exact ⟨rfl, apd_of hV ho hVb r1 (grow_drew t1) 1 rfl rfl⟩)

set_option maxHeartbeats 1000000 in
set_option maxRecDepth 100000 in
theorem append_2 (V base n : Nat) (t : Int) (bits : Int) (str : ByteArray) (sv : Value) (xs : List Value) (w : World) (G : Tab w) (ht : TL t 2) (hV : IsVec w V t 2 sv (.slice none 0 0)) (ho : w.ownsRow base 2 1 sv n xs) (hVb : V < base) (hb1 : base ≤ w.heap.size) (hn : n ≤ 2000) :
    Calls Ybaf.prog 11 #[.pointer (some ⟨V, 0, none⟩), .agg #[.int .u8 t, .bool false, .int .u64 bits, .string str]] w fun e w' => e = .returned (.tuple #[]) ∧ Apd w w' V base t 2 2 sv n (xs ++ [.int .i64 (IntKind.i64.wrap bits)]) := by
  obtain ⟨i0, hi, hz, hs, hb⟩ := info_parts Ybaf.info2
  have q27 := neq_nil27
  obtain ⟨so, sc, rfl⟩ := row_shape ho
  have c0 : w.cell? ⟨V, 0, none⟩ = some (.int .u8 t) := hV.cell 0
  have c1 : w.cell? ⟨V, 2, none⟩ = some (.slice so n sc) := hV.cell 2
  have c6 : w.cell? ⟨V, 6, none⟩ = some (.slice none 0 0) := hV.cell 6
  have fz := hV.fz
  have hlt := hV.lt
  have nV := row_ne ho hVb
  have S1 : Hid ((((w.alloc (.cells #[.int .u8 t, .bool false, .int .u64 bits, .string str] 26)).alloc (.cells #[.int .i64 (IntKind.i64.wrap bits)] 2)).drew).ownsRow base 2 1 (.slice so n sc) n xs) := (ho.alloc _).alloc _
  have S2 : Hid (∀ j u, [((.int .i64 (IntKind.i64.wrap bits)) : Value)][j]? = some u → (((w.alloc (.cells #[.int .u8 t, .bool false, .int .u64 bits, .string str] 26)).alloc (.cells #[.int .i64 (IntKind.i64.wrap bits)] 2)).drew).cell? ((⟨w.heap.size + 1, 0, none⟩ : Addr).add j) = some u) := cell_one_at (w.alloc (.cells #[.int .u8 t, .bool false, .int .u64 bits, .string str] 26)) _ _ _ (by simp)
  have S3 : Hid (base ≤ (((w.alloc (.cells #[.int .u8 t, .bool false, .int .u64 bits, .string str] 26)).alloc (.cells #[.int .i64 (IntKind.i64.wrap bits)] 2)).drew).heap.size) := by show base ≤ ((w.alloc _).alloc _).heap.size; simp; omega
  go_enter Ybaf.func11, Ybaf.ntmps11
  go_wp2_with (go_at_call 12; refine (layout_any t 2 ht _ (G.kept (Turn.alloc _ _ (fun _ => False)) id)).mono ?_; rintro e w' ⟨rfl, rfl⟩)
  go_region_law (refine step_append_at rfl (.tmp 54) (.tmp 58) 28 rfl base 2 i0 (.int .i64 0) 1 8 Ybaf.underlying28 hi hz hs hb rfl (by decide) (.slice so n sc) n xs (by simp [Act.eval]) S1.out ⟨w.heap.size + 1, 0, none⟩ 1 [.int .i64 (IntKind.i64.wrap bits)] (by simp [Act.eval]) rfl S2.out (one_cell rfl) (by unfold maxLen; omega) (by omega) S3.out ?_; intro g c w1 r1 t1 l1; have d1 : w1.cell? ⟨V, 2, none⟩ = some (.slice so n sc) := cell_step2 c1 (grow_drew t1) nV; have e1 : w1.frozen? ⟨V, 2, none⟩ = false := frozen_step2 (fz 2) (grow_drew t1) hlt nV)
  all_goals (go_wp2; go_end0; exact ⟨rfl, apd_of hV ho hVb r1 (grow_drew t1) 2 rfl rfl⟩)

set_option maxHeartbeats 1000000 in
set_option maxRecDepth 100000 in
theorem append_3 (V base n : Nat) (t : Int) (bits : Int) (str : ByteArray) (sv : Value) (xs : List Value) (w : World) (G : Tab w) (ht : TL t 3) (hV : IsVec w V t 3 sv (.slice none 0 0)) (ho : w.ownsRow base 22 1 sv n xs) (hVb : V < base) (hb1 : base ≤ w.heap.size) (hn : n ≤ 2000) :
    Calls Ybaf.prog 11 #[.pointer (some ⟨V, 0, none⟩), .agg #[.int .u8 t, .bool false, .int .u64 bits, .string str]] w fun e w' => e = .returned (.tuple #[]) ∧ Apd w w' V base t 3 22 sv n (xs ++ [.int .u64 bits]) := by
  obtain ⟨i0, hi, hz, hs, hb⟩ := info_parts Ybaf.info22
  have q27 := neq_nil27
  obtain ⟨so, sc, rfl⟩ := row_shape ho
  have c0 : w.cell? ⟨V, 0, none⟩ = some (.int .u8 t) := hV.cell 0
  have c1 : w.cell? ⟨V, 3, none⟩ = some (.slice so n sc) := hV.cell 3
  have c6 : w.cell? ⟨V, 6, none⟩ = some (.slice none 0 0) := hV.cell 6
  have fz := hV.fz
  have hlt := hV.lt
  have nV := row_ne ho hVb
  have S1 : Hid ((((w.alloc (.cells #[.int .u8 t, .bool false, .int .u64 bits, .string str] 26)).alloc (.cells #[.int .u64 bits] 22)).drew).ownsRow base 22 1 (.slice so n sc) n xs) := (ho.alloc _).alloc _
  have S2 : Hid (∀ j u, [((.int .u64 bits) : Value)][j]? = some u → (((w.alloc (.cells #[.int .u8 t, .bool false, .int .u64 bits, .string str] 26)).alloc (.cells #[.int .u64 bits] 22)).drew).cell? ((⟨w.heap.size + 1, 0, none⟩ : Addr).add j) = some u) := cell_one_at (w.alloc (.cells #[.int .u8 t, .bool false, .int .u64 bits, .string str] 26)) _ _ _ (by simp)
  have S3 : Hid (base ≤ (((w.alloc (.cells #[.int .u8 t, .bool false, .int .u64 bits, .string str] 26)).alloc (.cells #[.int .u64 bits] 22)).drew).heap.size) := by show base ≤ ((w.alloc _).alloc _).heap.size; simp; omega
  go_enter Ybaf.func11, Ybaf.ntmps11
  go_wp2_with (go_at_call 12; refine (layout_any t 3 ht _ (G.kept (Turn.alloc _ _ (fun _ => False)) id)).mono ?_; rintro e w' ⟨rfl, rfl⟩)
  go_region_law (refine step_append_at rfl (.tmp 68) (.tmp 71) 29 rfl base 22 i0 (.int .u64 0) 1 8 Ybaf.underlying29 hi hz hs hb rfl (by decide) (.slice so n sc) n xs (by simp [Act.eval]) S1.out ⟨w.heap.size + 1, 0, none⟩ 1 [.int .u64 bits] (by simp [Act.eval]) rfl S2.out (one_cell rfl) (by unfold maxLen; omega) (by omega) S3.out ?_; intro g c w1 r1 t1 l1; have d1 : w1.cell? ⟨V, 3, none⟩ = some (.slice so n sc) := cell_step2 c1 (grow_drew t1) nV; have e1 : w1.frozen? ⟨V, 3, none⟩ = false := frozen_step2 (fz 3) (grow_drew t1) hlt nV)
  all_goals (go_wp2; go_end0; exact ⟨rfl, apd_of hV ho hVb r1 (grow_drew t1) 3 rfl rfl⟩)

set_option maxHeartbeats 1000000 in
set_option maxRecDepth 100000 in
theorem append_5 (V base n : Nat) (t : Int) (bits : Int) (str : ByteArray) (sv : Value) (xs : List Value) (w : World) (G : Tab w) (ht : TL t 5) (hV : IsVec w V t 5 sv (.slice none 0 0)) (ho : w.ownsRow base 9 1 sv n xs) (hVb : V < base) (hb1 : base ≤ w.heap.size) (hn : n ≤ 2000) :
    Calls Ybaf.prog 11 #[.pointer (some ⟨V, 0, none⟩), .agg #[.int .u8 t, .bool false, .int .u64 bits, .string str]] w fun e w' => e = .returned (.tuple #[]) ∧ Apd w w' V base t 5 9 sv n (xs ++ [.string str]) := by
  obtain ⟨i0, hi, hz, hs, hb⟩ := info_parts Ybaf.info9
  have q27 := neq_nil27
  obtain ⟨so, sc, rfl⟩ := row_shape ho
  have c0 : w.cell? ⟨V, 0, none⟩ = some (.int .u8 t) := hV.cell 0
  have c1 : w.cell? ⟨V, 5, none⟩ = some (.slice so n sc) := hV.cell 5
  have c6 : w.cell? ⟨V, 6, none⟩ = some (.slice none 0 0) := hV.cell 6
  have fz := hV.fz
  have hlt := hV.lt
  have nV := row_ne ho hVb
  have S1 : Hid ((((w.alloc (.cells #[.int .u8 t, .bool false, .int .u64 bits, .string str] 26)).alloc (.cells #[.string str] 9)).drew).ownsRow base 9 1 (.slice so n sc) n xs) := (ho.alloc _).alloc _
  have S2 : Hid (∀ j u, [((.string str) : Value)][j]? = some u → (((w.alloc (.cells #[.int .u8 t, .bool false, .int .u64 bits, .string str] 26)).alloc (.cells #[.string str] 9)).drew).cell? ((⟨w.heap.size + 1, 0, none⟩ : Addr).add j) = some u) := cell_one_at (w.alloc (.cells #[.int .u8 t, .bool false, .int .u64 bits, .string str] 26)) _ _ _ (by simp)
  have S3 : Hid (base ≤ (((w.alloc (.cells #[.int .u8 t, .bool false, .int .u64 bits, .string str] 26)).alloc (.cells #[.string str] 9)).drew).heap.size) := by show base ≤ ((w.alloc _).alloc _).heap.size; simp; omega
  go_enter Ybaf.func11, Ybaf.ntmps11
  go_wp2_with (go_at_call 12; refine (layout_any t 5 ht _ (G.kept (Turn.alloc _ _ (fun _ => False)) id)).mono ?_; rintro e w' ⟨rfl, rfl⟩)
  go_region_law (refine step_append_at rfl (.tmp 95) (.tmp 98) 31 rfl base 9 i0 (.string ByteArray.empty) 1 16 Ybaf.underlying31 hi hz hs hb rfl (by decide) (.slice so n sc) n xs (by simp [Act.eval]) S1.out ⟨w.heap.size + 1, 0, none⟩ 1 [.string str] (by simp [Act.eval]) rfl S2.out (one_cell rfl) (by unfold maxLen; omega) (by omega) S3.out ?_; intro g c w1 r1 t1 l1; have d1 : w1.cell? ⟨V, 5, none⟩ = some (.slice so n sc) := cell_step2 c1 (grow_drew t1) nV; have e1 : w1.frozen? ⟨V, 5, none⟩ = false := frozen_step2 (fz 5) (grow_drew t1) hlt nV)
  all_goals (go_wp2; go_end0; exact ⟨rfl, apd_of hV ho hVb r1 (grow_drew t1) 5 rfl rfl⟩)

end Go.Proofs.YbulkajnkFmt
