import Derived.Test.YbulkajnkFmtRepeat
namespace Go.Proofs.YbulkajnkFmt
open Go.RowKit

set_option maxHeartbeats 1000000 in
set_option maxRecDepth 100000 in
theorem repeatN_1 (N : Nat) (t : Int) (bits : Int) (str : ByteArray) (w : World) (G : Tab w) (ht : TL t 1) (h0 : 0 < N) (hN : N ≤ 1024) :
    Calls Ybaf.prog 6 #[.agg #[.int .u8 t, .bool true, .int .u64 bits, .string str], .int .i64 N] w fun e w' => ∃ gs sc gn nc, e = .returned (.agg (va t 1 (.slice (some ⟨gs, 0, none⟩) N sc) (.slice (some ⟨gn, 0, none⟩) N nc))) ∧
      w'.ownsRow (w.heap.size + 3) 4 1 (.slice (some ⟨gs, 0, none⟩) N sc) N (List.replicate N (.bool false)) ∧ w'.ownsRow (w.heap.size + 3) 4 1 (.slice (some ⟨gn, 0, none⟩) N nc) N (List.replicate N (.bool true)) ∧ Below w.heap.size w w' := by
  have R0 := rest_start w t bits true str
  have hG := R0.tab G
  have hV := vec_start w t bits true str 1 (by omega)
  have h1 : 1 < w.heap.size + 1 + 1 := by have : 1 < w.heap.size := World.block_lt_of_cell? w _ G.l1; omega
  have hsz : (repW w t bits true str).heap.size = w.heap.size + 3 := by unfold repW; simp
  have C := nulls_1 (w.heap.size + 1 + 1) N t (repW w t bits true str) hG ht hV h1 h0 hN
  unfold Nul at C
  rw [hsz] at C
  have HC := C
  clear C hV hG hsz
  have HD : Hid (Calls Ybaf.prog 10 _ _ _) := HC
  clear HC
  go_enter Ybaf.func6, Ybaf.ntmps6
  go_wp2_with (go_at_call 10; refine HD.out.mono ?_; rintro e w' ⟨rfl, gs, sc, gn, nc, kV, ko, kn, kT⟩; have R := R0.kept (kT.weaken (fun _ _ q => .inl q)); have c0 : w'.cell? ⟨w.heap.size + 1 + 1, 0, none⟩ = some (.int .u8 t) := kV.cell 0; have c1 : w'.cell? ⟨w.heap.size + 1 + 1, 1, none⟩ = some (.slice (some ⟨gs, 0, none⟩) N sc) := kV.cell 1; have c2 : w'.cell? ⟨w.heap.size + 1 + 1, 2, none⟩ = some (.slice none 0 0) := kV.cell 2; have c3 : w'.cell? ⟨w.heap.size + 1 + 1, 3, none⟩ = some (.slice none 0 0) := kV.cell 3; have c4 : w'.cell? ⟨w.heap.size + 1 + 1, 4, none⟩ = some (.slice none 0 0) := kV.cell 4; have c5 : w'.cell? ⟨w.heap.size + 1 + 1, 5, none⟩ = some (.slice none 0 0) := kV.cell 5; have c6 : w'.cell? ⟨w.heap.size + 1 + 1, 6, none⟩ = some (.slice (some ⟨gn, 0, none⟩) N nc) := kV.cell 6; have r0 : w'.cell? ⟨w.heap.size + 1, 0, none⟩ = some (.int .u8 0) := R.res.cell 0; have r1 : w'.cell? ⟨w.heap.size + 1, 1, none⟩ = some (.slice none 0 0) := R.res.cell 1; have r2 : w'.cell? ⟨w.heap.size + 1, 2, none⟩ = some (.slice none 0 0) := R.res.cell 2; have r3 : w'.cell? ⟨w.heap.size + 1, 3, none⟩ = some (.slice none 0 0) := R.res.cell 3; have r4 : w'.cell? ⟨w.heap.size + 1, 4, none⟩ = some (.slice none 0 0) := R.res.cell 4; have r5 : w'.cell? ⟨w.heap.size + 1, 5, none⟩ = some (.slice none 0 0) := R.res.cell 5; have r6 : w'.cell? ⟨w.heap.size + 1, 6, none⟩ = some (.slice none 0 0) := R.res.cell 6; have fz := R.res.fz; have rlt := R.res.lt)
  refine bodyPost_ret (v := .agg #[.int .u8 t, .slice (some ⟨gs, 0, none⟩) N sc, .slice none 0 0, .slice none 0 0, .slice none 0 0, .slice none 0 0, .slice (some ⟨gn, 0, none⟩) N nc]) (by simp [results, Ybaf.results6, go_sem, r0, r1, r2, r3, r4, r5, r6]) rfl ⟨gs, sc, gn, nc, rfl, ?_, ?_, ?_⟩
  · exact own7 ko (by omega) _ _ _ _ _ _ _
  · exact own7 kn (by omega) _ _ _ _ _ _ _
  · exact bel7 R.bel (by omega) _ _ _ _ _ _ _

set_option maxHeartbeats 1000000 in
set_option maxRecDepth 100000 in
theorem repeatN_2 (N : Nat) (t : Int) (bits : Int) (str : ByteArray) (w : World) (G : Tab w) (ht : TL t 2) (h0 : 0 < N) (hN : N ≤ 1024) :
    Calls Ybaf.prog 6 #[.agg #[.int .u8 t, .bool true, .int .u64 bits, .string str], .int .i64 N] w fun e w' => ∃ gs sc gn nc, e = .returned (.agg (va t 2 (.slice (some ⟨gs, 0, none⟩) N sc) (.slice (some ⟨gn, 0, none⟩) N nc))) ∧
      w'.ownsRow (w.heap.size + 3) 2 1 (.slice (some ⟨gs, 0, none⟩) N sc) N (List.replicate N (.int .i64 0)) ∧ w'.ownsRow (w.heap.size + 3) 4 1 (.slice (some ⟨gn, 0, none⟩) N nc) N (List.replicate N (.bool true)) ∧ Below w.heap.size w w' := by
  have R0 := rest_start w t bits true str
  have hG := R0.tab G
  have hV := vec_start w t bits true str 2 (by omega)
  have h1 : 1 < w.heap.size + 1 + 1 := by have : 1 < w.heap.size := World.block_lt_of_cell? w _ G.l1; omega
  have hsz : (repW w t bits true str).heap.size = w.heap.size + 3 := by unfold repW; simp
  have C := nulls_2 (w.heap.size + 1 + 1) N t (repW w t bits true str) hG ht hV h1 h0 hN
  unfold Nul at C
  rw [hsz] at C
  have HC := C
  clear C hV hG hsz
  have HD : Hid (Calls Ybaf.prog 10 _ _ _) := HC
  clear HC
  go_enter Ybaf.func6, Ybaf.ntmps6
  go_wp2_with (go_at_call 10; refine HD.out.mono ?_; rintro e w' ⟨rfl, gs, sc, gn, nc, kV, ko, kn, kT⟩; have R := R0.kept (kT.weaken (fun _ _ q => .inl q)); have c0 : w'.cell? ⟨w.heap.size + 1 + 1, 0, none⟩ = some (.int .u8 t) := kV.cell 0; have c1 : w'.cell? ⟨w.heap.size + 1 + 1, 1, none⟩ = some (.slice none 0 0) := kV.cell 1; have c2 : w'.cell? ⟨w.heap.size + 1 + 1, 2, none⟩ = some (.slice (some ⟨gs, 0, none⟩) N sc) := kV.cell 2; have c3 : w'.cell? ⟨w.heap.size + 1 + 1, 3, none⟩ = some (.slice none 0 0) := kV.cell 3; have c4 : w'.cell? ⟨w.heap.size + 1 + 1, 4, none⟩ = some (.slice none 0 0) := kV.cell 4; have c5 : w'.cell? ⟨w.heap.size + 1 + 1, 5, none⟩ = some (.slice none 0 0) := kV.cell 5; have c6 : w'.cell? ⟨w.heap.size + 1 + 1, 6, none⟩ = some (.slice (some ⟨gn, 0, none⟩) N nc) := kV.cell 6; have r0 : w'.cell? ⟨w.heap.size + 1, 0, none⟩ = some (.int .u8 0) := R.res.cell 0; have r1 : w'.cell? ⟨w.heap.size + 1, 1, none⟩ = some (.slice none 0 0) := R.res.cell 1; have r2 : w'.cell? ⟨w.heap.size + 1, 2, none⟩ = some (.slice none 0 0) := R.res.cell 2; have r3 : w'.cell? ⟨w.heap.size + 1, 3, none⟩ = some (.slice none 0 0) := R.res.cell 3; have r4 : w'.cell? ⟨w.heap.size + 1, 4, none⟩ = some (.slice none 0 0) := R.res.cell 4; have r5 : w'.cell? ⟨w.heap.size + 1, 5, none⟩ = some (.slice none 0 0) := R.res.cell 5; have r6 : w'.cell? ⟨w.heap.size + 1, 6, none⟩ = some (.slice none 0 0) := R.res.cell 6; have fz := R.res.fz; have rlt := R.res.lt)
  refine bodyPost_ret (v := .agg #[.int .u8 t, .slice none 0 0, .slice (some ⟨gs, 0, none⟩) N sc, .slice none 0 0, .slice none 0 0, .slice none 0 0, .slice (some ⟨gn, 0, none⟩) N nc]) (by simp [results, Ybaf.results6, go_sem, r0, r1, r2, r3, r4, r5, r6]) rfl ⟨gs, sc, gn, nc, rfl, ?_, ?_, ?_⟩
  · exact own7 ko (by omega) _ _ _ _ _ _ _
  · exact own7 kn (by omega) _ _ _ _ _ _ _
  · exact bel7 R.bel (by omega) _ _ _ _ _ _ _

set_option maxHeartbeats 1000000 in
set_option maxRecDepth 100000 in
theorem repeatN_3 (N : Nat) (t : Int) (bits : Int) (str : ByteArray) (w : World) (G : Tab w) (ht : TL t 3) (h0 : 0 < N) (hN : N ≤ 1024) :
    Calls Ybaf.prog 6 #[.agg #[.int .u8 t, .bool true, .int .u64 bits, .string str], .int .i64 N] w fun e w' => ∃ gs sc gn nc, e = .returned (.agg (va t 3 (.slice (some ⟨gs, 0, none⟩) N sc) (.slice (some ⟨gn, 0, none⟩) N nc))) ∧
      w'.ownsRow (w.heap.size + 3) 22 1 (.slice (some ⟨gs, 0, none⟩) N sc) N (List.replicate N (.int .u64 0)) ∧ w'.ownsRow (w.heap.size + 3) 4 1 (.slice (some ⟨gn, 0, none⟩) N nc) N (List.replicate N (.bool true)) ∧ Below w.heap.size w w' := by
  have R0 := rest_start w t bits true str
  have hG := R0.tab G
  have hV := vec_start w t bits true str 3 (by omega)
  have h1 : 1 < w.heap.size + 1 + 1 := by have : 1 < w.heap.size := World.block_lt_of_cell? w _ G.l1; omega
  have hsz : (repW w t bits true str).heap.size = w.heap.size + 3 := by unfold repW; simp
  have C := nulls_3 (w.heap.size + 1 + 1) N t (repW w t bits true str) hG ht hV h1 h0 hN
  unfold Nul at C
  rw [hsz] at C
  have HC := C
  clear C hV hG hsz
  have HD : Hid (Calls Ybaf.prog 10 _ _ _) := HC
  clear HC
  go_enter Ybaf.func6, Ybaf.ntmps6
  go_wp2_with (go_at_call 10; refine HD.out.mono ?_; rintro e w' ⟨rfl, gs, sc, gn, nc, kV, ko, kn, kT⟩; have R := R0.kept (kT.weaken (fun _ _ q => .inl q)); have c0 : w'.cell? ⟨w.heap.size + 1 + 1, 0, none⟩ = some (.int .u8 t) := kV.cell 0; have c1 : w'.cell? ⟨w.heap.size + 1 + 1, 1, none⟩ = some (.slice none 0 0) := kV.cell 1; have c2 : w'.cell? ⟨w.heap.size + 1 + 1, 2, none⟩ = some (.slice none 0 0) := kV.cell 2; have c3 : w'.cell? ⟨w.heap.size + 1 + 1, 3, none⟩ = some (.slice (some ⟨gs, 0, none⟩) N sc) := kV.cell 3; have c4 : w'.cell? ⟨w.heap.size + 1 + 1, 4, none⟩ = some (.slice none 0 0) := kV.cell 4; have c5 : w'.cell? ⟨w.heap.size + 1 + 1, 5, none⟩ = some (.slice none 0 0) := kV.cell 5; have c6 : w'.cell? ⟨w.heap.size + 1 + 1, 6, none⟩ = some (.slice (some ⟨gn, 0, none⟩) N nc) := kV.cell 6; have r0 : w'.cell? ⟨w.heap.size + 1, 0, none⟩ = some (.int .u8 0) := R.res.cell 0; have r1 : w'.cell? ⟨w.heap.size + 1, 1, none⟩ = some (.slice none 0 0) := R.res.cell 1; have r2 : w'.cell? ⟨w.heap.size + 1, 2, none⟩ = some (.slice none 0 0) := R.res.cell 2; have r3 : w'.cell? ⟨w.heap.size + 1, 3, none⟩ = some (.slice none 0 0) := R.res.cell 3; have r4 : w'.cell? ⟨w.heap.size + 1, 4, none⟩ = some (.slice none 0 0) := R.res.cell 4; have r5 : w'.cell? ⟨w.heap.size + 1, 5, none⟩ = some (.slice none 0 0) := R.res.cell 5; have r6 : w'.cell? ⟨w.heap.size + 1, 6, none⟩ = some (.slice none 0 0) := R.res.cell 6; have fz := R.res.fz; have rlt := R.res.lt)
  refine bodyPost_ret (v := .agg #[.int .u8 t, .slice none 0 0, .slice none 0 0, .slice (some ⟨gs, 0, none⟩) N sc, .slice none 0 0, .slice none 0 0, .slice (some ⟨gn, 0, none⟩) N nc]) (by simp [results, Ybaf.results6, go_sem, r0, r1, r2, r3, r4, r5, r6]) rfl ⟨gs, sc, gn, nc, rfl, ?_, ?_, ?_⟩
  · exact own7 ko (by omega) _ _ _ _ _ _ _
  · exact own7 kn (by omega) _ _ _ _ _ _ _
  · exact bel7 R.bel (by omega) _ _ _ _ _ _ _

set_option maxHeartbeats 1000000 in
set_option maxRecDepth 100000 in
theorem repeatN_4 (N : Nat) (t : Int) (bits : Int) (str : ByteArray) (w : World) (G : Tab w) (ht : TL t 4) (h0 : 0 < N) (hN : N ≤ 1024) :
    Calls Ybaf.prog 6 #[.agg #[.int .u8 t, .bool true, .int .u64 bits, .string str], .int .i64 N] w fun e w' => ∃ gs sc gn nc, e = .returned (.agg (va t 4 (.slice (some ⟨gs, 0, none⟩) N sc) (.slice (some ⟨gn, 0, none⟩) N nc))) ∧
      w'.ownsRow (w.heap.size + 3) 36 1 (.slice (some ⟨gs, 0, none⟩) N sc) N (List.replicate N (.float .f64 0)) ∧ w'.ownsRow (w.heap.size + 3) 4 1 (.slice (some ⟨gn, 0, none⟩) N nc) N (List.replicate N (.bool true)) ∧ Below w.heap.size w w' := by
  have R0 := rest_start w t bits true str
  have hG := R0.tab G
  have hV := vec_start w t bits true str 4 (by omega)
  have h1 : 1 < w.heap.size + 1 + 1 := by have : 1 < w.heap.size := World.block_lt_of_cell? w _ G.l1; omega
  have hsz : (repW w t bits true str).heap.size = w.heap.size + 3 := by unfold repW; simp
  have C := nulls_4 (w.heap.size + 1 + 1) N t (repW w t bits true str) hG ht hV h1 h0 hN
  unfold Nul at C
  rw [hsz] at C
  have HC := C
  clear C hV hG hsz
  have HD : Hid (Calls Ybaf.prog 10 _ _ _) := HC
  clear HC
  go_enter Ybaf.func6, Ybaf.ntmps6
  go_wp2_with (go_at_call 10; refine HD.out.mono ?_; rintro e w' ⟨rfl, gs, sc, gn, nc, kV, ko, kn, kT⟩; have R := R0.kept (kT.weaken (fun _ _ q => .inl q)); have c0 : w'.cell? ⟨w.heap.size + 1 + 1, 0, none⟩ = some (.int .u8 t) := kV.cell 0; have c1 : w'.cell? ⟨w.heap.size + 1 + 1, 1, none⟩ = some (.slice none 0 0) := kV.cell 1; have c2 : w'.cell? ⟨w.heap.size + 1 + 1, 2, none⟩ = some (.slice none 0 0) := kV.cell 2; have c3 : w'.cell? ⟨w.heap.size + 1 + 1, 3, none⟩ = some (.slice none 0 0) := kV.cell 3; have c4 : w'.cell? ⟨w.heap.size + 1 + 1, 4, none⟩ = some (.slice (some ⟨gs, 0, none⟩) N sc) := kV.cell 4; have c5 : w'.cell? ⟨w.heap.size + 1 + 1, 5, none⟩ = some (.slice none 0 0) := kV.cell 5; have c6 : w'.cell? ⟨w.heap.size + 1 + 1, 6, none⟩ = some (.slice (some ⟨gn, 0, none⟩) N nc) := kV.cell 6; have r0 : w'.cell? ⟨w.heap.size + 1, 0, none⟩ = some (.int .u8 0) := R.res.cell 0; have r1 : w'.cell? ⟨w.heap.size + 1, 1, none⟩ = some (.slice none 0 0) := R.res.cell 1; have r2 : w'.cell? ⟨w.heap.size + 1, 2, none⟩ = some (.slice none 0 0) := R.res.cell 2; have r3 : w'.cell? ⟨w.heap.size + 1, 3, none⟩ = some (.slice none 0 0) := R.res.cell 3; have r4 : w'.cell? ⟨w.heap.size + 1, 4, none⟩ = some (.slice none 0 0) := R.res.cell 4; have r5 : w'.cell? ⟨w.heap.size + 1, 5, none⟩ = some (.slice none 0 0) := R.res.cell 5; have r6 : w'.cell? ⟨w.heap.size + 1, 6, none⟩ = some (.slice none 0 0) := R.res.cell 6; have fz := R.res.fz; have rlt := R.res.lt)
  refine bodyPost_ret (v := .agg #[.int .u8 t, .slice none 0 0, .slice none 0 0, .slice none 0 0, .slice (some ⟨gs, 0, none⟩) N sc, .slice none 0 0, .slice (some ⟨gn, 0, none⟩) N nc]) (by simp [results, Ybaf.results6, go_sem, r0, r1, r2, r3, r4, r5, r6]) rfl ⟨gs, sc, gn, nc, rfl, ?_, ?_, ?_⟩
  · exact own7 ko (by omega) _ _ _ _ _ _ _
  · exact own7 kn (by omega) _ _ _ _ _ _ _
  · exact bel7 R.bel (by omega) _ _ _ _ _ _ _

set_option maxHeartbeats 1000000 in
set_option maxRecDepth 100000 in
theorem repeatN_5 (N : Nat) (t : Int) (bits : Int) (str : ByteArray) (w : World) (G : Tab w) (ht : TL t 5) (h0 : 0 < N) (hN : N ≤ 1024) :
    Calls Ybaf.prog 6 #[.agg #[.int .u8 t, .bool true, .int .u64 bits, .string str], .int .i64 N] w fun e w' => ∃ gs sc gn nc, e = .returned (.agg (va t 5 (.slice (some ⟨gs, 0, none⟩) N sc) (.slice (some ⟨gn, 0, none⟩) N nc))) ∧
      w'.ownsRow (w.heap.size + 3) 9 1 (.slice (some ⟨gs, 0, none⟩) N sc) N (List.replicate N (.string ByteArray.empty)) ∧ w'.ownsRow (w.heap.size + 3) 4 1 (.slice (some ⟨gn, 0, none⟩) N nc) N (List.replicate N (.bool true)) ∧ Below w.heap.size w w' := by
  have R0 := rest_start w t bits true str
  have hG := R0.tab G
  have hV := vec_start w t bits true str 5 (by omega)
  have h1 : 1 < w.heap.size + 1 + 1 := by have : 1 < w.heap.size := World.block_lt_of_cell? w _ G.l1; omega
  have hsz : (repW w t bits true str).heap.size = w.heap.size + 3 := by unfold repW; simp
  have C := nulls_5 (w.heap.size + 1 + 1) N t (repW w t bits true str) hG ht hV h1 h0 hN
  unfold Nul at C
  rw [hsz] at C
  have HC := C
  clear C hV hG hsz
  have HD : Hid (Calls Ybaf.prog 10 _ _ _) := HC
  clear HC
  go_enter Ybaf.func6, Ybaf.ntmps6
  go_wp2_with (go_at_call 10; refine HD.out.mono ?_; rintro e w' ⟨rfl, gs, sc, gn, nc, kV, ko, kn, kT⟩; have R := R0.kept (kT.weaken (fun _ _ q => .inl q)); have c0 : w'.cell? ⟨w.heap.size + 1 + 1, 0, none⟩ = some (.int .u8 t) := kV.cell 0; have c1 : w'.cell? ⟨w.heap.size + 1 + 1, 1, none⟩ = some (.slice none 0 0) := kV.cell 1; have c2 : w'.cell? ⟨w.heap.size + 1 + 1, 2, none⟩ = some (.slice none 0 0) := kV.cell 2; have c3 : w'.cell? ⟨w.heap.size + 1 + 1, 3, none⟩ = some (.slice none 0 0) := kV.cell 3; have c4 : w'.cell? ⟨w.heap.size + 1 + 1, 4, none⟩ = some (.slice none 0 0) := kV.cell 4; have c5 : w'.cell? ⟨w.heap.size + 1 + 1, 5, none⟩ = some (.slice (some ⟨gs, 0, none⟩) N sc) := kV.cell 5; have c6 : w'.cell? ⟨w.heap.size + 1 + 1, 6, none⟩ = some (.slice (some ⟨gn, 0, none⟩) N nc) := kV.cell 6; have r0 : w'.cell? ⟨w.heap.size + 1, 0, none⟩ = some (.int .u8 0) := R.res.cell 0; have r1 : w'.cell? ⟨w.heap.size + 1, 1, none⟩ = some (.slice none 0 0) := R.res.cell 1; have r2 : w'.cell? ⟨w.heap.size + 1, 2, none⟩ = some (.slice none 0 0) := R.res.cell 2; have r3 : w'.cell? ⟨w.heap.size + 1, 3, none⟩ = some (.slice none 0 0) := R.res.cell 3; have r4 : w'.cell? ⟨w.heap.size + 1, 4, none⟩ = some (.slice none 0 0) := R.res.cell 4; have r5 : w'.cell? ⟨w.heap.size + 1, 5, none⟩ = some (.slice none 0 0) := R.res.cell 5; have r6 : w'.cell? ⟨w.heap.size + 1, 6, none⟩ = some (.slice none 0 0) := R.res.cell 6; have fz := R.res.fz; have rlt := R.res.lt)
  refine bodyPost_ret (v := .agg #[.int .u8 t, .slice none 0 0, .slice none 0 0, .slice none 0 0, .slice none 0 0, .slice (some ⟨gs, 0, none⟩) N sc, .slice (some ⟨gn, 0, none⟩) N nc]) (by simp [results, Ybaf.results6, go_sem, r0, r1, r2, r3, r4, r5, r6]) rfl ⟨gs, sc, gn, nc, rfl, ?_, ?_, ?_⟩
  · exact own7 ko (by omega) _ _ _ _ _ _ _
  · exact own7 kn (by omega) _ _ _ _ _ _ _
  · exact bel7 R.bel (by omega) _ _ _ _ _ _ _

set_option maxHeartbeats 1000000 in
set_option maxRecDepth 100000 in
/-- No value of a null: an empty vector. -/
theorem repeatZ (t : Int) (bits : Int) (str : ByteArray) (w : World) :
    Calls Ybaf.prog 6 #[.agg #[.int .u8 t, .bool true, .int .u64 bits, .string str], .int .i64 0] w fun e w' => e = .returned (.agg (va t 1 (.slice none 0 0) (.slice none 0 0))) ∧ Below w.heap.size w w' := by
  go_enter Ybaf.func6, Ybaf.ntmps6
  go_wp2_with (go_at_call 10; refine (nulls_zero _ _).mono ?_; rintro e w' ⟨rfl, rfl⟩)
  refine bodyPost_ret (v := .agg #[.int .u8 t, .slice none 0 0, .slice none 0 0, .slice none 0 0, .slice none 0 0, .slice none 0 0, .slice none 0 0]) (by simp [results, Ybaf.results6, go_sem]) rfl ⟨rfl, ?_⟩
  exact (((Below.refl _ _).alloc (Nat.le_refl _) _).alloc (by simp) _).alloc (by simp; omega) _

end Go.Proofs.YbulkajnkFmt
