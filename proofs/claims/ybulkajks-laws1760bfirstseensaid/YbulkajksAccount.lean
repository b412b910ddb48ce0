import Derived.Test.YbulkajksLed
import Derived.WalkSpells
import Derived.Maps.StringElems
namespace Go.Proofs.Ybulkajks
open Go.RowKit Go.Maps

theorem law9 : Keyed Yba.prog 9 := string_keyed Yba.underlying9
theorem zero3 (w : World) : (zeroValue 3).run Yba.prog w = .ok (.int .i64 0) w := by kernel_rfl
theorem Yba.info9 : (Yba.prog.info? 9).map (fun i => (i.zero, i.size, i.bytes)) = some (some (.string ByteArray.empty), 1, 16) := by kernel_rfl
theorem Yba.info33 : (Yba.prog.info? 33).map (fun i => (i.zero, i.size, i.bytes)) = some (some (.agg #[.int .u64 0, .int .u64 0, .int .u64 0, .int .u64 0]), 4, 32) := by kernel_rfl

set_option maxHeartbeats 400000 in
set_option maxRecDepth 100000 in
/-- The name is there: its place; nothing turns. -/
theorem account_in (L : Nat) (mo : Option Nat) (nv hv : Value) (S : List ByteArray) (x : ByteArray) (m : Nat) (w : World) (h : Led w L mo nv hv S) (hx : S[m]? = some x) (hlen : x.size ≤ maxLen) :
    Calls Yba.prog 5 #[.pointer (some ⟨L, 0, none⟩), .string x] w fun e w' => e = .returned (.int .i64 m) ∧ w' = w := by
  rcases h.map with ⟨_, rfl⟩ | ⟨B, D, rfl, hB, hm, hd⟩
  · simp at hx
  have c0 := h.c0
  have hmem : x ∈ S := List.mem_of_getElem? hx
  have hkey : keyOf Yba.prog 9 (.string x) = some (nkey x) := WideMaps.keyOf_string_mk Yba.underlying9 hlen
  have hh := hd.hin x hmem
  have ha := hd.at_ m x hx
  clear hx h hd hmem
  go_enter Yba.func5, Yba.ntmps5
  go_wp2_with (first
    | (at_lookup; refine wpList_lookup_own_ok_int _ rfl _ _ 24 rfl 9 3 .i64 law9 Yba.underlying24 Yba.underlying3 (zero3 _) B _ D rfl hm _ _ rfl hkey ?_; intro c hat hwc)
    | go_in)
  go_ret
  rw [ha] at hat
  simp at hat
  exact ⟨by rw [hat]; rfl, rfl⟩

set_option maxHeartbeats 800000 in
set_option maxRecDepth 100000 in
/-- The name is new, the map is there. -/
theorem account_new (L B : Nat) (nv hv : Value) (S : List ByteArray) (D : DataW Unit) (x : ByteArray) (w : World) (h : Led w L (some B) nv hv S) (hB : L < B) (hm : w.ownsMap Yba.prog 9 (plainElem Yba.prog 3) B S.length D) (hd : Desc D S)
    (hx : x ∉ S) (hlen : x.size ≤ maxLen) (hS : S.length ≤ 1024) :
    Calls Yba.prog 5 #[.pointer (some ⟨L, 0, none⟩), .string x] w fun e w' => e = .returned (.int .i64 S.length) ∧
      ∃ g2 c2 hv', Led w' L (some B) (.slice (some ⟨g2, 0, none⟩) (S.length + 1) c2) hv' (S ++ [x]) ∧ Turn w w' (ledBs L (some B) nv hv) ∧ (nv.ownBlock = some g2 ∨ w.heap.size ≤ g2) := by
  have c0 := h.c0
  have c1 := h.c1
  have c2 := h.c2
  have fz := h.fz
  have hlt := h.lt
  have hkey : keyOf Yba.prog 9 (.string x) = some (nkey x) := WideMaps.keyOf_string_mk Yba.underlying9 hlen
  have hh := hd.hout x hx
  have q24 : ∀ (w : World) (r : Option Nat), (binOp .eql 24 (.map r) (.map none)).run Yba.prog w = .ok (.bool r.isNone) w := fun w r => run_eql_map_nil w _ _ _ r Yba.underlying24
  obtain ⟨i9, hi9, hz9, hs9, hb9⟩ := info_parts Yba.info9
  obtain ⟨i33, hi33, hz33, hs33, hb33⟩ := info_parts Yba.info33
  obtain ⟨no, ncap, rfl⟩ := row_shape h.names
  obtain ⟨ho, hcap, rfl⟩ := row_shape h.held
  have hnames := h.names
  have hheld := h.held
  have nB := row_map h.names hm
  have hBv := row_map h.held hm
  have nL := row_ne h.names (Nat.lt_succ_self L)
  have hL := row_ne h.held (Nat.lt_succ_self L)
  have nap := row_apart h.names h.held (by decide)
  have hap := row_apart h.held h.names (by decide)
  have hheld2 : ∀ (w1 w2 : World) (o : Obj), w.grownBy w1 (some B) → (w1.alloc o).grownBy w2 (Value.slice no S.length ncap).ownBlock → w2.ownsRow (L + 1) 33 4 (.slice ho S.length hcap) S.length (List.replicate (S.length * 4) (.int .u64 0)) := fun w1 w2 o t1 t2 => by
    refine ((hheld.kept t1 (Or.inr hBv)).alloc o).kept t2 ?_
    cases e : (Value.slice ho S.length hcap).ownBlock with
    | none => exact .inl rfl
    | some k => exact .inr (fun q => hap k e q.symm)
  have HH : Hid (Led w L (some B) (.slice no S.length ncap) (.slice ho S.length hcap) S ∧ Desc D S) := ⟨h, hd⟩
  clear h hd
  go_enter Yba.func5, Yba.ntmps5
  go_wp2_with (first
    | (at_lookup; refine wpList_lookup_own_ok_int _ rfl _ _ 24 rfl 9 3 .i64 law9 Yba.underlying24 Yba.underlying3 (zero3 _) B _ D rfl hm _ _ rfl hkey ?_; intro c hat hwc; clear hat hwc)
    | (at_mapUpdate; refine wpList_mapUpdate_own _ rfl _ _ _ 24 rfl 9 3 law9 Yba.underlying24 _ B _ D rfl hm (by unfold maxLen; omega) _ _ _ rfl rfl hkey _ [] (plainElem_int Yba.underlying3 (WalkArith.wf_i64 (by omega))) ?_; intro w1 hm1 t1; have d0 := t1.cell c0 (by simp; omega); have d1 := t1.cell c1 (by simp; omega); have d2 := t1.cell c2 (by simp; omega); have z1 : ∀ j, w1.frozen? ⟨L, j, none⟩ = false := fun j => frozen_step (fz j) t1 hlt (by simp; omega); have s1 := t1.size)
    | (at_builtin; refine append_at _ rfl (.tmp 42) (.tmp 44) 22 rfl (L + 1) 9 i9 (.string ByteArray.empty) 1 16 Yba.underlying22 hi9 hz9 hs9 hb9 rfl (by decide) _ _ _ rfl ((hnames.kept t1 (Or.inr nB)).alloc _) ⟨w1.heap.size, 0, none⟩ 1 [.string x] rfl rfl (cell_one_new _ _ _) (str_oneCell x) (by unfold maxLen; omega) (by omega) (by simp; omega) ?_; intro g2 c2' w2 r2 t2 l2; have e0 := cell_step d0 t2 nL; have e1 := cell_step d1 t2 nL; have e2 := cell_step d2 t2 nL; have z2 : ∀ j, w2.frozen? ⟨L, j, none⟩ = false := fun j => frozen_step' (z1 j) t2 (by exact Nat.lt_of_lt_of_le hlt s1) nL; have s2 := t2.size)
    | (at_builtin; refine append_at _ rfl (.tmp 52) (.tmp 54) 25 rfl (L + 1) 33 i33 (.agg #[.int .u64 0, .int .u64 0, .int .u64 0, .int .u64 0]) 4 32 Yba.underlying25 hi33 hz33 hs33 hb33 rfl (by decide) _ _ _ rfl (((ownsRow_setCell_below (hheld2 w1 w2 _ t1 t2) (Nat.lt_succ_self L) _)).alloc _) ⟨w2.heap.size, 0, none⟩ 1 [.int .u64 0, .int .u64 0, .int .u64 0, .int .u64 0] rfl rfl (cell_four_new _ _ _ (by simp)) four_oneCell (by unfold maxLen; omega) (by omega) (by simp at s2 ⊢; omega) ?_; intro g3 c3' w3 r3 t3 l3; have f2 : w3.cell? ⟨L, 2, none⟩ = some (.slice ho S.length hcap) := cell_step ((World.cell?_setCell_other _ _ _ _ (by simp)).trans e2) t3 hL; have z3 : w3.frozen? ⟨L, 2, none⟩ = false := frozen_step' ((World.frozen?_setCell _ _ _ _).trans (z2 2)) t3 (by simp at s2 ⊢; omega) hL)
    | fail)
  go_ret
  obtain ⟨h, hd⟩ := HH.out
  obtain ⟨k1, k2, k3⟩ := led_step h hB hm hd hx hm1 t1 r2 t2 l2 r3 t3
  exact ⟨rfl, _, _, _, k1, k2, k3⟩

set_option maxHeartbeats 800000 in
set_option maxRecDepth 100000 in
/-- The first name of all: the map is made. -/
theorem account_first (L : Nat) (nv hv : Value) (x : ByteArray) (w : World) (h0 : Led w L none nv hv []) (hlen : x.size ≤ maxLen) :
    Calls Yba.prog 5 #[.pointer (some ⟨L, 0, none⟩), .string x] w fun e w' => e = .returned (.int .i64 0) ∧
      ∃ B g2 c2 hv', Led w' L (some B) (.slice (some ⟨g2, 0, none⟩) 1 c2) hv' [x] ∧ Turn w w' (ledBs L none nv hv) ∧ (nv.ownBlock = some g2 ∨ w.heap.size ≤ g2) := by
  obtain ⟨h, hm, T0⟩ := led_made h0
  unfold madeW at h hm T0
  obtain ⟨no, ncap, rfl⟩ := row_shape h.names
  obtain ⟨ho, hcap, rfl⟩ := row_shape h.held
  have c0 := h0.c0
  have f0 := h0.fz 0
  have c1 : w.cell? ⟨L, 1, none⟩ = some (.slice no 0 ncap) := h0.c1
  have c2 : w.cell? ⟨L, 2, none⟩ = some (.slice ho 0 hcap) := h0.c2
  have hlt := h0.lt
  have hkey : keyOf Yba.prog 9 (.string x) = some (nkey x) := WideMaps.keyOf_string_mk Yba.underlying9 hlen
  have hrun := look_nil (w := w) true law9 Yba.underlying24 (zero3 _) hkey
  have hmm := @run_makeMap Yba.prog
  have q24 : ∀ (w : World) (r : Option Nat), (binOp .eql 24 (.map r) (.map none)).run Yba.prog w = .ok (.bool r.isNone) w := fun w r => run_eql_map_nil w _ _ _ r Yba.underlying24
  obtain ⟨i9, hi9, hz9, hs9, hb9⟩ := info_parts Yba.info9
  obtain ⟨i33, hi33, hz33, hs33, hb33⟩ := info_parts Yba.info33
  have hnames : ((w.setCell ⟨L, 0, none⟩ (.map (some w.heap.size))).alloc (.map #[] 0)).ownsRow (L + 1) 9 1 (.slice no 0 ncap) 0 [] := h.names
  have hheld : ((w.setCell ⟨L, 0, none⟩ (.map (some w.heap.size))).alloc (.map #[] 0)).ownsRow (L + 1) 33 4 (.slice ho 0 hcap) 0 [] := h.held
  have nB := row_map hnames hm
  have hBv := row_map hheld hm
  have nL := row_ne hnames (Nat.lt_succ_self L)
  have hL := row_ne hheld (Nat.lt_succ_self L)
  have hap := row_apart hheld hnames (by decide)
  have hheld2 : ∀ (w1 w2 : World) (o : Obj), ((w.setCell ⟨L, 0, none⟩ (.map (some w.heap.size))).alloc (.map #[] 0)).grownBy w1 (some w.heap.size) → (w1.alloc o).grownBy w2 (Value.slice no 0 ncap).ownBlock → w2.ownsRow (L + 1) 33 4 (.slice ho 0 hcap) 0 [] := fun w1 w2 o t1 t2 => by
    refine ((hheld.kept t1 (Or.inr hBv)).alloc o).kept t2 ?_
    cases e : (Value.slice ho 0 hcap).ownBlock with
    | none => exact .inl rfl
    | some k => exact .inr (fun q => hap k e q.symm)
  have HH : Hid (Led ((w.setCell ⟨L, 0, none⟩ (.map (some w.heap.size))).alloc (.map #[] 0)) L (some w.heap.size) (.slice no 0 ncap) (.slice ho 0 hcap) [] ∧ Turn w ((w.setCell ⟨L, 0, none⟩ (.map (some w.heap.size))).alloc (.map #[] 0)) (fun k => k = L)) := ⟨h, T0⟩
  clear h h0 T0 hap
  go_enter Yba.func5, Yba.ntmps5
  go_wp2_with (first
    | (at_mapUpdate; refine wpList_mapUpdate_own _ rfl _ _ _ 24 rfl 9 3 law9 Yba.underlying24 _ w.heap.size 0 (.map []) rfl hm (by unfold maxLen; omega) _ _ _ rfl rfl hkey _ [] (plainElem_int Yba.underlying3 (WalkArith.wf_i64 (by omega))) ?_; intro w1 hm1 t1; have d0 := t1.cell HH.out.1.c0 (by simp; omega); have d1 : w1.cell? ⟨L, 1, none⟩ = some (.slice no 0 ncap) := t1.cell HH.out.1.c1 (by simp; omega); have d2 : w1.cell? ⟨L, 2, none⟩ = some (.slice ho 0 hcap) := t1.cell HH.out.1.c2 (by simp; omega); have z1 : ∀ j, w1.frozen? ⟨L, j, none⟩ = false := fun j => frozen_step (HH.out.1.fz j) t1 HH.out.1.lt (by simp; omega); have s1 := t1.size)
    | (at_builtin; refine append_at _ rfl (.tmp 42) (.tmp 44) 22 rfl (L + 1) 9 i9 (.string ByteArray.empty) 1 16 Yba.underlying22 hi9 hz9 hs9 hb9 rfl (by decide) _ _ _ rfl ((hnames.kept t1 (Or.inr nB)).alloc _) ⟨w1.heap.size, 0, none⟩ 1 [.string x] rfl rfl (cell_one_new _ _ _) (str_oneCell x) (by unfold maxLen; simp) (by simp) (by simp at s1 ⊢; omega) ?_; intro g2 c2' w2 r2 t2 l2; have e0 := cell_step d0 t2 nL; have e1 := cell_step d1 t2 nL; have e2 := cell_step d2 t2 nL; have z2 : ∀ j, w2.frozen? ⟨L, j, none⟩ = false := fun j => frozen_step' (z1 j) t2 (by exact Nat.lt_of_lt_of_le HH.out.1.lt s1) nL; have s2 := t2.size)
    | (at_builtin; refine append_at _ rfl (.tmp 52) (.tmp 54) 25 rfl (L + 1) 33 i33 (.agg #[.int .u64 0, .int .u64 0, .int .u64 0, .int .u64 0]) 4 32 Yba.underlying25 hi33 hz33 hs33 hb33 rfl (by decide) _ _ _ rfl (((ownsRow_setCell_below (hheld2 w1 w2 _ t1 t2) (Nat.lt_succ_self L) _)).alloc _) ⟨w2.heap.size, 0, none⟩ 1 [.int .u64 0, .int .u64 0, .int .u64 0, .int .u64 0] rfl rfl (cell_four_new _ _ _ (by simp)) four_oneCell (by unfold maxLen; simp) (by simp) (by simp at s1 s2 ⊢; omega) ?_; intro g3 c3' w3 r3 t3 l3; have f2 : w3.cell? ⟨L, 2, none⟩ = some (.slice ho 0 hcap) := cell_step ((World.cell?_setCell_other _ _ _ _ (by simp)).trans e2) t3 hL; have z3 : w3.frozen? ⟨L, 2, none⟩ = false := frozen_step' ((World.frozen?_setCell _ _ _ _).trans (z2 2)) t3 (by simp at s1 s2 ⊢; omega) hL)
    | fail)
  go_ret
  obtain ⟨h, T0⟩ := HH.out
  obtain ⟨k1, k2, k3⟩ := led_step (S := []) h hlt hm desc_nil (by simp) hm1 t1 r2 t2 l2 r3 t3
  refine ⟨rfl, _, _, ⟨_, _, k1⟩, ?_, ?_⟩
  · refine (T0.weaken (fun k _ e => .inl e)).comp k2 (fun i hi q => ?_)
    rcases q with q | q | q | q
    · exact .inl q
    · exact .inr (.inl q)
    · exact .inr (.inr (.inl q))
    · simp at q; omega
  · rcases k3 with e | e
    · exact .inl e
    · exact .inr (by have := T0.size; omega)

end Go.Proofs.Ybulkajks
