import Derived.Test.YbulkajnkFmtMake
namespace Go.Proofs.YbulkajnkFmt
open Go.RowKit

theorem eql_nil27 (w : World) (a : Option Addr) (n c : Nat) : (binOp .eql 27 (.slice a n c) (.slice none 0 0)).run Ybaf.prog w = .ok (.bool a.isNone) w := Lib.run_eql_slice_nil w 27 4 a n c 0 0 Ybaf.underlying27

/-- n is nought: nothing is done. -/
theorem nulls_zero (V : Nat) (w : World) : Calls Ybaf.prog 10 #[.pointer (some ⟨V, 0, none⟩), .int .i64 0] w fun e w' => e = .returned (.tuple #[]) ∧ w = w' := by
  go_enter Ybaf.func10, Ybaf.ntmps10
  go_wp2
  exact bodyPost_ret (v := .tuple #[]) (by simp [results, Ybaf.results10, go_sem]) rfl ⟨rfl, rfl⟩

/-- What AppendNulls leaves at a fresh vector: N zero values, N times true, in new rows; of what was there the vector alone has turned. -/
def Nul (w w' : World) (V : Nat) (t : Int) (l : Nat) (e : TypeId) (z : Value) (N : Nat) : Prop :=
  ∃ gs cs gn cn, IsVec w' V t l (.slice (some ⟨gs, 0, none⟩) N cs) (.slice (some ⟨gn, 0, none⟩) N cn) ∧ w'.ownsRow w.heap.size e 1 (.slice (some ⟨gs, 0, none⟩) N cs) N (List.replicate N z) ∧
    w'.ownsRow w.heap.size 4 1 (.slice (some ⟨gn, 0, none⟩) N cn) N (List.replicate N (.bool true)) ∧ Turn w w' (fun k => k = V)

/-- The loop's relation: k times true so far. -/
def NulInv (w wr : World) (V : Nat) (t : Int) (l k : Nat) : Prop :=
  ∃ no nc, IsVec wr V t l (.slice none 0 0) (.slice no k nc) ∧ wr.ownsRow w.heap.size 4 1 (.slice no k nc) k (List.replicate k (.bool true)) ∧ Turn w wr (fun b => b = V)

theorem nul_start {w w0 : World} {V : Nat} {t : Int} {l g c : Nat} (hV : IsVec w V t l (.slice none 0 0) (.slice none 0 0)) (r0 : w0.ownsRow w.heap.size 4 1 (.slice (some ⟨g, 0, none⟩) 0 c) 0 []) (t0 : w.grownBy w0 none)
    (e6 : (va t l (.slice none 0 0) (.slice none 0 0)).setIfInBounds 6 (.slice (some ⟨g, 0, none⟩) 0 c) = va t l (.slice none 0 0) (.slice (some ⟨g, 0, none⟩) 0 c)) :
    NulInv w (w0.setCell ⟨V, 6, none⟩ (.slice (some ⟨g, 0, none⟩) 0 c)) V t l 0 := by
  have T0 : Turn w w0 (fun _ => False) := Turn.grown t0 (fun k e => by cases e)
  have T1 : Turn w0 (w0.setCell ⟨V, 6, none⟩ (.slice (some ⟨g, 0, none⟩) 0 c)) (fun b => b = V) := Turn.setCell (bs := fun b => b = V) _ _ _ rfl
  have hg := (r0.lt g rfl).1
  have hlt := hV.lt
  exact ⟨_, _, (hV.kept T0 id).set 6 _ e6, T1.row r0 (fun k e => by simp [Value.ownBlock] at e; omega), (T0.weaken (fun _ _ q => q.elim)).trans T1⟩

theorem nul_step {w wr w1 : World} {V : Nat} {t : Int} {l k g c nc : Nat} {no : Option Addr} {o : Obj} (hVw : V < w.heap.size) (hV : IsVec wr V t l (.slice none 0 0) (.slice no k nc)) (ho : wr.ownsRow w.heap.size 4 1 (.slice no k nc) k (List.replicate k (.bool true))) (hT : Turn w wr (fun b => b = V))
    (r1 : w1.ownsRow w.heap.size 4 1 (.slice (some ⟨g, 0, none⟩) (k + 1) c) (k + 1) (List.replicate k (.bool true) ++ [.bool true])) (t1 : (wr.alloc o).grownBy w1 (Value.slice no k nc).ownBlock)
    (e6 : (va t l (.slice none 0 0) (.slice no k nc)).setIfInBounds 6 (.slice (some ⟨g, 0, none⟩) (k + 1) c) = va t l (.slice none 0 0) (.slice (some ⟨g, 0, none⟩) (k + 1) c)) :
    NulInv w (w1.setCell ⟨V, 6, none⟩ (.slice (some ⟨g, 0, none⟩) (k + 1) c)) V t l (k + 1) := by
  have T1 : Turn wr w1 (fun b => (Value.slice no k nc).ownBlock = some b) := (Turn.alloc _ _ _).trans (Turn.grown t1 (fun k e => e))
  have T2 : Turn w1 (w1.setCell ⟨V, 6, none⟩ (.slice (some ⟨g, 0, none⟩) (k + 1) c)) (fun b => b = V) := Turn.setCell (bs := fun b => b = V) _ _ _ rfl
  have hg := (r1.lt g rfl).1
  have nV := row_ne ho hVw
  refine ⟨_, _, (hV.kept T1 nV).set 6 _ e6, ?_, ?_⟩
  · rw [show List.replicate (k + 1) (Value.bool true) = List.replicate k (.bool true) ++ [.bool true] from List.replicate_succ']
    exact T2.row r1 (fun k e => by simp [Value.ownBlock] at e; omega)
  · refine (hT.comp T1 (fun i hi q => ?_)).trans T2
    have := (ho.lt i q).1
    omega

theorem nul_end {w wr w1 : World} {V : Nat} {t : Int} {l N gs cs gn cn j : Nat} {e : TypeId} {z : Value} (hVw : V < w.heap.size) (hV : IsVec wr V t l (.slice none 0 0) (.slice (some ⟨gn, 0, none⟩) N cn)) (ho : wr.ownsRow w.heap.size 4 1 (.slice (some ⟨gn, 0, none⟩) N cn) N (List.replicate N (.bool true))) (hT : Turn w wr (fun b => b = V))
    (r1 : w1.ownsRow w.heap.size e 1 (.slice (some ⟨gs, 0, none⟩) N cs) N (List.replicate N z)) (t1 : wr.grownBy w1 none)
    (ej : (va t l (.slice none 0 0) (.slice (some ⟨gn, 0, none⟩) N cn)).setIfInBounds j (.slice (some ⟨gs, 0, none⟩) N cs) = va t l (.slice (some ⟨gs, 0, none⟩) N cs) (.slice (some ⟨gn, 0, none⟩) N cn)) :
    Nul w (w1.setCell ⟨V, j, none⟩ (.slice (some ⟨gs, 0, none⟩) N cs)) V t l e z N := by
  have T1 : Turn wr w1 (fun _ => False) := Turn.grown t1 (fun k e => by cases e)
  have T2 : Turn w1 (w1.setCell ⟨V, j, none⟩ (.slice (some ⟨gs, 0, none⟩) N cs)) (fun b => b = V) := Turn.setCell (bs := fun b => b = V) _ _ _ rfl
  have hg := (r1.lt gs rfl).1
  have hg' := (ho.lt gn rfl).1
  exact ⟨_, _, _, _, (hV.kept T1 id).set j _ ej, T2.row r1 (fun k e => by simp [Value.ownBlock] at e; omega), T2.row (T1.row ho (fun _ _ q => q)) (fun k e => by simp [Value.ownBlock] at e; omega), (hT.comp T1 (fun i hi q => q.elim)).trans T2⟩

set_option maxHeartbeats 1000000 in
set_option maxRecDepth 100000 in
theorem nulls_1 (V N : Nat) (t : Int) (w : World) (G : Tab w) (ht : TL t 1) (hV : IsVec w V t 1 (.slice none 0 0) (.slice none 0 0)) (hV1 : 1 < V) (h0 : 0 < N) (hN : N ≤ 1024) :
    Calls Ybaf.prog 10 #[.pointer (some ⟨V, 0, none⟩), .int .i64 N] w fun e w' => e = .returned (.tuple #[]) ∧ Nul w w' V t 1 4 (.bool false) N := by
  obtain ⟨i4, hi4, hz4, hs4, hb4⟩ := info_parts Ybaf.info4
  obtain ⟨i0, hi, hz, hs, hb⟩ := info_parts Ybaf.info4
  have q27 := eql_nil27
  have c6 : w.cell? ⟨V, 6, none⟩ = some (.slice none 0 0) := hV.cell 6
  have f6 := hV.fz 6
  have hlt := hV.lt
  have hN0 : ((N : Int) == 0) = false := by simp; omega
  go_enter Ybaf.func10, Ybaf.ntmps10
  go_wp2_with (first
    | (go_at_call 9; refine (len_any V t 1 0 0 none _ _ ht G hV).mono ?_; rintro e w' ⟨rfl, rfl⟩)
    | (at_make; refine wpList_make_own _ rfl _ _ 27 rfl w.heap.size 4 i4 (.bool false) 1 Ybaf.underlying27 hi4 hz4 hs4 .i64 .i64 _ N rfl rfl (by omega) (by rw [hb4]; omega) (by unfold maxLen; omega) (Nat.le_refl _) ?_; intro w0 own0 grow0; have d6 := grow0.cell c6 (by simp); have e6 := frozen_step f6 grow0 hlt (by simp); have I0 := nul_start hV own0 grow0 rfl; clear own0 grow0))
  clear c6 f6
  go_loopw [22] (fun i wr => ∃ k : Nat, k ≤ N ∧ i = .int .i64 k ∧ NulInv w wr V t 1 k) (fun i _ => N - (intOf i).toNat)
  case atStart => exact ⟨0, Nat.zero_le _, rfl, I0⟩
  case round =>
    obtain ⟨k, hk, rfl, no, nc, kV, ko, kT⟩ := hrel
    clear I0 d6 e6
    have c6 : wr.cell? ⟨V, 6, none⟩ = some (.slice no k nc) := kV.cell 6
    have f6 := kV.fz 6
    have klt := kV.lt
    have nV := row_ne ko hlt
    have ksz := kT.size
    by_cases hk2 : k < N
    · go_wp2_with (at_builtin; refine append_at _ rfl (.tmp 28) (.tmp 29) 27 rfl w.heap.size 4 i4 (.bool false) 1 1 Ybaf.underlying27 hi4 hz4 hs4 hb4 rfl (by decide) _ _ _ rfl (ko.alloc _) ⟨wr.heap.size, 0, none⟩ 1 [.bool true] rfl rfl (cell_one_new _ _ _) (one_cell rfl) (by unfold maxLen; omega) (by omega) (by simp; omega) ?_; intro g c w1 r1 t1 l1; have d6 := cell_step c6 t1 nV; have e6 := frozen_step' f6 t1 klt nV)
      have R := nul_step hlt kV ko kT r1 t1 rfl
      go_roundw
      case rel => exact ⟨k + 1, by omega, by go_num, R⟩
      case measure => simp [intOf]; omega
    · obtain rfl : k = N := by omega
      obtain ⟨gn, rfl⟩ := row_some ko h0
      have GG : Tab wr := G.kept kT (by omega)
      have c0 : wr.cell? ⟨V, 0, none⟩ = some (.int .u8 t) := kV.cell 0
      have c1 : wr.cell? ⟨V, 1, none⟩ = some (.slice none 0 0) := kV.cell 1
      have f1 := kV.fz 1
      clear q27
      go_wp2_with (first
        | (go_at_call 12; refine (layout_any t 1 ht _ GG).mono ?_; rintro e w' ⟨rfl, rfl⟩)
        | (at_builtin; refine append_make _ rfl (.tmp 52) (.tmp 53) 27 3 rfl w.heap.size 4 i0 (.bool false) Ybaf.underlying27 Ybaf.underlying3 hi hz hs rfl k rfl rfl h0 (by omega) (by rw [hb]; decide) ksz ?_; intro gs cs w1 r1 t1 l1; clear l1; have d1 := t1.cell c1 (by simp); have e1 := frozen_step f1 t1 klt (by simp)))
      go_end0
      exact ⟨rfl, nul_end hlt kV ko kT r1 t1 rfl⟩

set_option maxHeartbeats 1000000 in
set_option maxRecDepth 100000 in
theorem nulls_2 (V N : Nat) (t : Int) (w : World) (G : Tab w) (ht : TL t 2) (hV : IsVec w V t 2 (.slice none 0 0) (.slice none 0 0)) (hV1 : 1 < V) (h0 : 0 < N) (hN : N ≤ 1024) :
    Calls Ybaf.prog 10 #[.pointer (some ⟨V, 0, none⟩), .int .i64 N] w fun e w' => e = .returned (.tuple #[]) ∧ Nul w w' V t 2 2 (.int .i64 0) N := by
  obtain ⟨i4, hi4, hz4, hs4, hb4⟩ := info_parts Ybaf.info4
  obtain ⟨i0, hi, hz, hs, hb⟩ := info_parts Ybaf.info2
  have q27 := eql_nil27
  have c6 : w.cell? ⟨V, 6, none⟩ = some (.slice none 0 0) := hV.cell 6
  have f6 := hV.fz 6
  have hlt := hV.lt
  have hN0 : ((N : Int) == 0) = false := by simp; omega
  go_enter Ybaf.func10, Ybaf.ntmps10
  go_wp2_with (first
    | (go_at_call 9; refine (len_any V t 2 0 0 none _ _ ht G hV).mono ?_; rintro e w' ⟨rfl, rfl⟩)
    | (at_make; refine wpList_make_own _ rfl _ _ 27 rfl w.heap.size 4 i4 (.bool false) 1 Ybaf.underlying27 hi4 hz4 hs4 .i64 .i64 _ N rfl rfl (by omega) (by rw [hb4]; omega) (by unfold maxLen; omega) (Nat.le_refl _) ?_; intro w0 own0 grow0; have d6 := grow0.cell c6 (by simp); have e6 := frozen_step f6 grow0 hlt (by simp); have I0 := nul_start hV own0 grow0 rfl; clear own0 grow0))
  clear c6 f6
  go_loopw [22] (fun i wr => ∃ k : Nat, k ≤ N ∧ i = .int .i64 k ∧ NulInv w wr V t 2 k) (fun i _ => N - (intOf i).toNat)
  case atStart => exact ⟨0, Nat.zero_le _, rfl, I0⟩
  case round =>
    obtain ⟨k, hk, rfl, no, nc, kV, ko, kT⟩ := hrel
    clear I0 d6 e6
    have c6 : wr.cell? ⟨V, 6, none⟩ = some (.slice no k nc) := kV.cell 6
    have f6 := kV.fz 6
    have klt := kV.lt
    have nV := row_ne ko hlt
    have ksz := kT.size
    by_cases hk2 : k < N
    · go_wp2_with (at_builtin; refine append_at _ rfl (.tmp 28) (.tmp 29) 27 rfl w.heap.size 4 i4 (.bool false) 1 1 Ybaf.underlying27 hi4 hz4 hs4 hb4 rfl (by decide) _ _ _ rfl (ko.alloc _) ⟨wr.heap.size, 0, none⟩ 1 [.bool true] rfl rfl (cell_one_new _ _ _) (one_cell rfl) (by unfold maxLen; omega) (by omega) (by simp; omega) ?_; intro g c w1 r1 t1 l1; have d6 := cell_step c6 t1 nV; have e6 := frozen_step' f6 t1 klt nV)
      have R := nul_step hlt kV ko kT r1 t1 rfl
      go_roundw
      case rel => exact ⟨k + 1, by omega, by go_num, R⟩
      case measure => simp [intOf]; omega
    · obtain rfl : k = N := by omega
      obtain ⟨gn, rfl⟩ := row_some ko h0
      have GG : Tab wr := G.kept kT (by omega)
      have c0 : wr.cell? ⟨V, 0, none⟩ = some (.int .u8 t) := kV.cell 0
      have c1 : wr.cell? ⟨V, 2, none⟩ = some (.slice none 0 0) := kV.cell 2
      have f1 := kV.fz 2
      clear q27
      go_wp2_with (first
        | (go_at_call 12; refine (layout_any t 2 ht _ GG).mono ?_; rintro e w' ⟨rfl, rfl⟩)
        | (at_builtin; refine append_make _ rfl (.tmp 63) (.tmp 64) 28 3 rfl w.heap.size 2 i0 (.int .i64 0) Ybaf.underlying28 Ybaf.underlying3 hi hz hs rfl k rfl rfl h0 (by omega) (by rw [hb]; decide) ksz ?_; intro gs cs w1 r1 t1 l1; clear l1; have d1 := t1.cell c1 (by simp); have e1 := frozen_step f1 t1 klt (by simp)))
      go_end0
      exact ⟨rfl, nul_end hlt kV ko kT r1 t1 rfl⟩

set_option maxHeartbeats 1000000 in
set_option maxRecDepth 100000 in
theorem nulls_3 (V N : Nat) (t : Int) (w : World) (G : Tab w) (ht : TL t 3) (hV : IsVec w V t 3 (.slice none 0 0) (.slice none 0 0)) (hV1 : 1 < V) (h0 : 0 < N) (hN : N ≤ 1024) :
    Calls Ybaf.prog 10 #[.pointer (some ⟨V, 0, none⟩), .int .i64 N] w fun e w' => e = .returned (.tuple #[]) ∧ Nul w w' V t 3 22 (.int .u64 0) N := by
  obtain ⟨i4, hi4, hz4, hs4, hb4⟩ := info_parts Ybaf.info4
  obtain ⟨i0, hi, hz, hs, hb⟩ := info_parts Ybaf.info22
  have q27 := eql_nil27
  have c6 : w.cell? ⟨V, 6, none⟩ = some (.slice none 0 0) := hV.cell 6
  have f6 := hV.fz 6
  have hlt := hV.lt
  have hN0 : ((N : Int) == 0) = false := by simp; omega
  go_enter Ybaf.func10, Ybaf.ntmps10
  go_wp2_with (first
    | (go_at_call 9; refine (len_any V t 3 0 0 none _ _ ht G hV).mono ?_; rintro e w' ⟨rfl, rfl⟩)
    | (at_make; refine wpList_make_own _ rfl _ _ 27 rfl w.heap.size 4 i4 (.bool false) 1 Ybaf.underlying27 hi4 hz4 hs4 .i64 .i64 _ N rfl rfl (by omega) (by rw [hb4]; omega) (by unfold maxLen; omega) (Nat.le_refl _) ?_; intro w0 own0 grow0; have d6 := grow0.cell c6 (by simp); have e6 := frozen_step f6 grow0 hlt (by simp); have I0 := nul_start hV own0 grow0 rfl; clear own0 grow0))
  clear c6 f6
  go_loopw [22] (fun i wr => ∃ k : Nat, k ≤ N ∧ i = .int .i64 k ∧ NulInv w wr V t 3 k) (fun i _ => N - (intOf i).toNat)
  case atStart => exact ⟨0, Nat.zero_le _, rfl, I0⟩
  case round =>
    obtain ⟨k, hk, rfl, no, nc, kV, ko, kT⟩ := hrel
    clear I0 d6 e6
    have c6 : wr.cell? ⟨V, 6, none⟩ = some (.slice no k nc) := kV.cell 6
    have f6 := kV.fz 6
    have klt := kV.lt
    have nV := row_ne ko hlt
    have ksz := kT.size
    by_cases hk2 : k < N
    · go_wp2_with (at_builtin; refine append_at _ rfl (.tmp 28) (.tmp 29) 27 rfl w.heap.size 4 i4 (.bool false) 1 1 Ybaf.underlying27 hi4 hz4 hs4 hb4 rfl (by decide) _ _ _ rfl (ko.alloc _) ⟨wr.heap.size, 0, none⟩ 1 [.bool true] rfl rfl (cell_one_new _ _ _) (one_cell rfl) (by unfold maxLen; omega) (by omega) (by simp; omega) ?_; intro g c w1 r1 t1 l1; have d6 := cell_step c6 t1 nV; have e6 := frozen_step' f6 t1 klt nV)
      have R := nul_step hlt kV ko kT r1 t1 rfl
      go_roundw
      case rel => exact ⟨k + 1, by omega, by go_num, R⟩
      case measure => simp [intOf]; omega
    · obtain rfl : k = N := by omega
      obtain ⟨gn, rfl⟩ := row_some ko h0
      have GG : Tab wr := G.kept kT (by omega)
      have c0 : wr.cell? ⟨V, 0, none⟩ = some (.int .u8 t) := kV.cell 0
      have c1 : wr.cell? ⟨V, 3, none⟩ = some (.slice none 0 0) := kV.cell 3
      have f1 := kV.fz 3
      clear q27
      go_wp2_with (first
        | (go_at_call 12; refine (layout_any t 3 ht _ GG).mono ?_; rintro e w' ⟨rfl, rfl⟩)
        | (at_builtin; refine append_make _ rfl (.tmp 74) (.tmp 75) 29 3 rfl w.heap.size 22 i0 (.int .u64 0) Ybaf.underlying29 Ybaf.underlying3 hi hz hs rfl k rfl rfl h0 (by omega) (by rw [hb]; decide) ksz ?_; intro gs cs w1 r1 t1 l1; clear l1; have d1 := t1.cell c1 (by simp); have e1 := frozen_step f1 t1 klt (by simp)))
      go_end0
      exact ⟨rfl, nul_end hlt kV ko kT r1 t1 rfl⟩

set_option maxHeartbeats 1000000 in
set_option maxRecDepth 100000 in
theorem nulls_4 (V N : Nat) (t : Int) (w : World) (G : Tab w) (ht : TL t 4) (hV : IsVec w V t 4 (.slice none 0 0) (.slice none 0 0)) (hV1 : 1 < V) (h0 : 0 < N) (hN : N ≤ 1024) :
    Calls Ybaf.prog 10 #[.pointer (some ⟨V, 0, none⟩), .int .i64 N] w fun e w' => e = .returned (.tuple #[]) ∧ Nul w w' V t 4 36 (.float .f64 0) N := by
  obtain ⟨i4, hi4, hz4, hs4, hb4⟩ := info_parts Ybaf.info4
  obtain ⟨i0, hi, hz, hs, hb⟩ := info_parts Ybaf.info36
  have q27 := eql_nil27
  have c6 : w.cell? ⟨V, 6, none⟩ = some (.slice none 0 0) := hV.cell 6
  have f6 := hV.fz 6
  have hlt := hV.lt
  have hN0 : ((N : Int) == 0) = false := by simp; omega
  go_enter Ybaf.func10, Ybaf.ntmps10
  go_wp2_with (first
    | (go_at_call 9; refine (len_any V t 4 0 0 none _ _ ht G hV).mono ?_; rintro e w' ⟨rfl, rfl⟩)
    | (at_make; refine wpList_make_own _ rfl _ _ 27 rfl w.heap.size 4 i4 (.bool false) 1 Ybaf.underlying27 hi4 hz4 hs4 .i64 .i64 _ N rfl rfl (by omega) (by rw [hb4]; omega) (by unfold maxLen; omega) (Nat.le_refl _) ?_; intro w0 own0 grow0; have d6 := grow0.cell c6 (by simp); have e6 := frozen_step f6 grow0 hlt (by simp); have I0 := nul_start hV own0 grow0 rfl; clear own0 grow0))
  clear c6 f6
  go_loopw [22] (fun i wr => ∃ k : Nat, k ≤ N ∧ i = .int .i64 k ∧ NulInv w wr V t 4 k) (fun i _ => N - (intOf i).toNat)
  case atStart => exact ⟨0, Nat.zero_le _, rfl, I0⟩
  case round =>
    obtain ⟨k, hk, rfl, no, nc, kV, ko, kT⟩ := hrel
    clear I0 d6 e6
    have c6 : wr.cell? ⟨V, 6, none⟩ = some (.slice no k nc) := kV.cell 6
    have f6 := kV.fz 6
    have klt := kV.lt
    have nV := row_ne ko hlt
    have ksz := kT.size
    by_cases hk2 : k < N
    · go_wp2_with (at_builtin; refine append_at _ rfl (.tmp 28) (.tmp 29) 27 rfl w.heap.size 4 i4 (.bool false) 1 1 Ybaf.underlying27 hi4 hz4 hs4 hb4 rfl (by decide) _ _ _ rfl (ko.alloc _) ⟨wr.heap.size, 0, none⟩ 1 [.bool true] rfl rfl (cell_one_new _ _ _) (one_cell rfl) (by unfold maxLen; omega) (by omega) (by simp; omega) ?_; intro g c w1 r1 t1 l1; have d6 := cell_step c6 t1 nV; have e6 := frozen_step' f6 t1 klt nV)
      have R := nul_step hlt kV ko kT r1 t1 rfl
      go_roundw
      case rel => exact ⟨k + 1, by omega, by go_num, R⟩
      case measure => simp [intOf]; omega
    · obtain rfl : k = N := by omega
      obtain ⟨gn, rfl⟩ := row_some ko h0
      have GG : Tab wr := G.kept kT (by omega)
      have c0 : wr.cell? ⟨V, 0, none⟩ = some (.int .u8 t) := kV.cell 0
      have c1 : wr.cell? ⟨V, 4, none⟩ = some (.slice none 0 0) := kV.cell 4
      have f1 := kV.fz 4
      clear q27
      go_wp2_with (first
        | (go_at_call 12; refine (layout_any t 4 ht _ GG).mono ?_; rintro e w' ⟨rfl, rfl⟩)
        | (at_builtin; refine append_make _ rfl (.tmp 85) (.tmp 86) 30 3 rfl w.heap.size 36 i0 (.float .f64 0) Ybaf.underlying30 Ybaf.underlying3 hi hz hs rfl k rfl rfl h0 (by omega) (by rw [hb]; decide) ksz ?_; intro gs cs w1 r1 t1 l1; clear l1; have d1 := t1.cell c1 (by simp); have e1 := frozen_step f1 t1 klt (by simp)))
      go_end0
      exact ⟨rfl, nul_end hlt kV ko kT r1 t1 rfl⟩

set_option maxHeartbeats 1000000 in
set_option maxRecDepth 100000 in
theorem nulls_5 (V N : Nat) (t : Int) (w : World) (G : Tab w) (ht : TL t 5) (hV : IsVec w V t 5 (.slice none 0 0) (.slice none 0 0)) (hV1 : 1 < V) (h0 : 0 < N) (hN : N ≤ 1024) :
    Calls Ybaf.prog 10 #[.pointer (some ⟨V, 0, none⟩), .int .i64 N] w fun e w' => e = .returned (.tuple #[]) ∧ Nul w w' V t 5 9 (.string ByteArray.empty) N := by
  obtain ⟨i4, hi4, hz4, hs4, hb4⟩ := info_parts Ybaf.info4
  obtain ⟨i0, hi, hz, hs, hb⟩ := info_parts Ybaf.info9
  have q27 := eql_nil27
  have c6 : w.cell? ⟨V, 6, none⟩ = some (.slice none 0 0) := hV.cell 6
  have f6 := hV.fz 6
  have hlt := hV.lt
  have hN0 : ((N : Int) == 0) = false := by simp; omega
  go_enter Ybaf.func10, Ybaf.ntmps10
  go_wp2_with (first
    | (go_at_call 9; refine (len_any V t 5 0 0 none _ _ ht G hV).mono ?_; rintro e w' ⟨rfl, rfl⟩)
    | (at_make; refine wpList_make_own _ rfl _ _ 27 rfl w.heap.size 4 i4 (.bool false) 1 Ybaf.underlying27 hi4 hz4 hs4 .i64 .i64 _ N rfl rfl (by omega) (by rw [hb4]; omega) (by unfold maxLen; omega) (Nat.le_refl _) ?_; intro w0 own0 grow0; have d6 := grow0.cell c6 (by simp); have e6 := frozen_step f6 grow0 hlt (by simp); have I0 := nul_start hV own0 grow0 rfl; clear own0 grow0))
  clear c6 f6
  go_loopw [22] (fun i wr => ∃ k : Nat, k ≤ N ∧ i = .int .i64 k ∧ NulInv w wr V t 5 k) (fun i _ => N - (intOf i).toNat)
  case atStart => exact ⟨0, Nat.zero_le _, rfl, I0⟩
  case round =>
    obtain ⟨k, hk, rfl, no, nc, kV, ko, kT⟩ := hrel
    clear I0 d6 e6
    have c6 : wr.cell? ⟨V, 6, none⟩ = some (.slice no k nc) := kV.cell 6
    have f6 := kV.fz 6
    have klt := kV.lt
    have nV := row_ne ko hlt
    have ksz := kT.size
    by_cases hk2 : k < N
    · go_wp2_with (at_builtin; refine append_at _ rfl (.tmp 28) (.tmp 29) 27 rfl w.heap.size 4 i4 (.bool false) 1 1 Ybaf.underlying27 hi4 hz4 hs4 hb4 rfl (by decide) _ _ _ rfl (ko.alloc _) ⟨wr.heap.size, 0, none⟩ 1 [.bool true] rfl rfl (cell_one_new _ _ _) (one_cell rfl) (by unfold maxLen; omega) (by omega) (by simp; omega) ?_; intro g c w1 r1 t1 l1; have d6 := cell_step c6 t1 nV; have e6 := frozen_step' f6 t1 klt nV)
      have R := nul_step hlt kV ko kT r1 t1 rfl
      go_roundw
      case rel => exact ⟨k + 1, by omega, by go_num, R⟩
      case measure => simp [intOf]; omega
    · obtain rfl : k = N := by omega
      obtain ⟨gn, rfl⟩ := row_some ko h0
      have GG : Tab wr := G.kept kT (by omega)
      have c0 : wr.cell? ⟨V, 0, none⟩ = some (.int .u8 t) := kV.cell 0
      have c1 : wr.cell? ⟨V, 5, none⟩ = some (.slice none 0 0) := kV.cell 5
      have f1 := kV.fz 5
      clear q27
      go_wp2_with (first
        | (go_at_call 12; refine (layout_any t 5 ht _ GG).mono ?_; rintro e w' ⟨rfl, rfl⟩)
        | (at_builtin; refine append_make _ rfl (.tmp 96) (.tmp 97) 31 3 rfl w.heap.size 9 i0 (.string ByteArray.empty) Ybaf.underlying31 Ybaf.underlying3 hi hz hs rfl k rfl rfl h0 (by omega) (by rw [hb]; decide) ksz ?_; intro gs cs w1 r1 t1 l1; clear l1; have d1 := t1.cell c1 (by simp); have e1 := frozen_step f1 t1 klt (by simp)))
      go_end0
      exact ⟨rfl, nul_end hlt kV ko kT r1 t1 rfl⟩

/-- The element type, its zero value, and what a value's bits and text are at a layout. -/
def elT (l : Nat) : TypeId := match l with | 1 => 4 | 2 => 2 | 3 => 22 | 4 => 36 | _ => 9
def elZ (l : Nat) : Value := match l with | 1 => .bool false | 2 => .int .i64 0 | 3 => .int .u64 0 | 4 => .float .f64 0 | _ => .string ByteArray.empty

theorem nulls_any (V N : Nat) (t : Int) (l : Nat) (w : World) (G : Tab w) (ht : TL t l) (hV : IsVec w V t l (.slice none 0 0) (.slice none 0 0)) (hV1 : 1 < V) (h0 : 0 < N) (hN : N ≤ 1024) :
    Calls Ybaf.prog 10 #[.pointer (some ⟨V, 0, none⟩), .int .i64 N] w fun e w' => e = .returned (.tuple #[]) ∧ Nul w w' V t l (elT l) (elZ l) N := by
  rcases ht.five with rfl | rfl | rfl | rfl | rfl
  · exact nulls_1 V N t w G ht hV hV1 h0 hN
  · exact nulls_2 V N t w G ht hV hV1 h0 hN
  · exact nulls_3 V N t w G ht hV hV1 h0 hN
  · exact nulls_4 V N t w G ht hV hV1 h0 hN
  · exact nulls_5 V N t w G ht hV hV1 h0 hN

end Go.Proofs.YbulkajnkFmt
