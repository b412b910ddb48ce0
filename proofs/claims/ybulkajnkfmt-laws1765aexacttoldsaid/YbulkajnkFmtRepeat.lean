import Derived.Test.YbulkajnkFmtNulls
import Derived.Test.YbulkajnkFmtAppendF
namespace Go.Proofs.YbulkajnkFmt
open Go.RowKit

/-- The loop's relation in Repeat: k values so far. -/
def RepInv (w wr : World) (V base : Nat) (t : Int) (l k : Nat) (e : TypeId) (x : Value) : Prop :=
  ∃ so sc, IsVec wr V t l (.slice so k sc) (.slice none 0 0) ∧ wr.ownsRow base e 1 (.slice so k sc) k (List.replicate k x) ∧ Turn w wr (fun b => b = V ∨ base ≤ b)

theorem rep_step {w wr w' : World} {V base : Nat} {t : Int} {l k : Nat} {e : TypeId} {x : Value} {so : Option Addr} {sc : Nat} (ko : wr.ownsRow base e 1 (.slice so k sc) k (List.replicate k x)) (kT : Turn w wr (fun b => b = V ∨ base ≤ b))
    (h : Apd wr w' V base t l e (.slice so k sc) k (List.replicate k x ++ [x])) : RepInv w w' V base t l (k + 1) e x := by
  obtain ⟨g, c, h1, h2, h3⟩ := h
  refine ⟨_, _, h1, ?_, kT.comp h3 (fun i _ q => ?_)⟩
  · rw [List.replicate_succ']
    exact h2
  · rcases q with q | q
    · exact .inl q
    · exact .inr (ko.lt i q).1

/-- The world in which Repeat's loop begins: x boxed, the result's own variable, v. -/
def repW (w : World) (t bits : Int) (nul : Bool) (str : ByteArray) : World :=
  ((w.alloc (.cells #[.int .u8 t, .bool nul, .int .u64 bits, .string str] 26)).alloc (.cells (va 0 1 (.slice none 0 0) (.slice none 0 0)) 33)).alloc (.cells (va t 1 (.slice none 0 0) (.slice none 0 0)) 33)

/-- What stays as the loop goes: x's box, and the result's variable, still zero. -/
structure Rest (w wr : World) (t bits : Int) (nul : Bool) (str : ByteArray) : Prop where
  box : wr.heap[w.heap.size]? = some (.cells #[.int .u8 t, .bool nul, .int .u64 bits, .string str] 26 (0, 0))
  res : IsVec wr (w.heap.size + 1) 0 1 (.slice none 0 0) (.slice none 0 0)
  bel : Below w.heap.size w wr
  siz : w.heap.size + 3 ≤ wr.heap.size

theorem rest_start (w : World) (t bits : Int) (nul : Bool) (str : ByteArray) : Rest w (repW w t bits nul str) t bits nul str := by
  have h0 := heap_alloc_new w (.cells #[.int .u8 t, .bool nul, .int .u64 bits, .string str] 26)
  have T1 := Turn.alloc (w.alloc (.cells #[.int .u8 t, .bool nul, .int .u64 bits, .string str] 26)) (.cells (va 0 1 (.slice none 0 0) (.slice none 0 0)) 33) (fun _ => False)
  have T2 := Turn.alloc ((w.alloc (.cells #[.int .u8 t, .bool nul, .int .u64 bits, .string str] 26)).alloc (.cells (va 0 1 (.slice none 0 0) (.slice none 0 0)) 33)) (.cells (va t 1 (.slice none 0 0) (.slice none 0 0)) 33) (fun _ => False)
  refine ⟨?_, ?_, ?_, ?_⟩
  · exact ((T1.trans T2).block w.heap.size (by simp) id).trans h0
  · have h1 := heap_alloc_new (w.alloc (.cells #[.int .u8 t, .bool nul, .int .u64 bits, .string str] 26)) (.cells (va 0 1 (.slice none 0 0) (.slice none 0 0)) 33)
    rw [World.size_alloc] at h1
    exact (T2.block (w.heap.size + 1) (by simp) id).trans h1
  · exact (((Below.refl _ _).alloc (Nat.le_refl _) _).alloc (by simp) _).alloc (by simp; omega) _
  · unfold repW; simp

theorem vec_start (w : World) (t bits : Int) (nul : Bool) (str : ByteArray) (l : Nat) (hl : l = 1 ∨ l = 2 ∨ l = 3 ∨ l = 4 ∨ l = 5) : IsVec (repW w t bits nul str) (w.heap.size + 1 + 1) t l (.slice none 0 0) (.slice none 0 0) := by
  have h1 := heap_alloc_new ((w.alloc (.cells #[.int .u8 t, .bool nul, .int .u64 bits, .string str] 26)).alloc (.cells (va 0 1 (.slice none 0 0) (.slice none 0 0)) 33)) (.cells (va t 1 (.slice none 0 0) (.slice none 0 0)) 33)
  rw [World.size_alloc, World.size_alloc] at h1
  rcases hl with rfl | rfl | rfl | rfl | rfl <;> exact h1

theorem Rest.kept {w wr wr' : World} {t bits : Int} {nul : Bool} {str : ByteArray} (h : Rest w wr t bits nul str) (T : Turn wr wr' (fun b => b = w.heap.size + 1 + 1 ∨ w.heap.size + 3 ≤ b)) : Rest w wr' t bits nul str :=
  ⟨(T.block _ (by have := h.siz; omega) (by omega)).trans h.box, h.res.kept T (by omega), T.below h.bel h.bel.size (fun k hk q => by omega), Nat.le_trans h.siz T.size⟩

theorem Rest.b {w wr : World} {t bits : Int} {nul : Bool} {str : ByteArray} (h : Rest w wr t bits nul str) (j : Nat) : wr.cell? ⟨w.heap.size, j, none⟩ = (#[.int .u8 t, .bool nul, .int .u64 bits, .string str] : Array Value)[j]? := by
  simp [World.cell?, h.box]

theorem Rest.tab {w wr : World} {t bits : Int} {nul : Bool} {str : ByteArray} (h : Rest w wr t bits nul str) (G : Tab w) : Tab wr := by
  have hlt : 1 < w.heap.size := World.block_lt_of_cell? w _ G.l1
  exact G.kept (bs := fun b => w.heap.size ≤ b) ⟨h.bel.os, h.bel.tape, h.bel.output, h.bel.size, fun k hk _ => h.bel.block k hk⟩ (by omega)

theorem own7 {w : World} {base : Nat} {e : TypeId} {size : Nat} {v : Value} {n : Nat} {xs : List Value} (h : w.ownsRow base e size v n xs) {b : Nat} (hb : b < base) (v0 v1 v2 v3 v4 v5 v6 : Value) :
    (((((((w.setCell ⟨b, 0, none⟩ v0).setCell ⟨b, 1, none⟩ v1).setCell ⟨b, 2, none⟩ v2).setCell ⟨b, 3, none⟩ v3).setCell ⟨b, 4, none⟩ v4).setCell ⟨b, 5, none⟩ v5).setCell ⟨b, 6, none⟩ v6).ownsRow base e size v n xs :=
  ownsRow_setCell_below (ownsRow_setCell_below (ownsRow_setCell_below (ownsRow_setCell_below (ownsRow_setCell_below (ownsRow_setCell_below (ownsRow_setCell_below h hb _) hb _) hb _) hb _) hb _) hb _) hb _

theorem bel7 {w0 w : World} {B : Nat} (h : Below B w0 w) {b : Nat} (hb : B ≤ b) (v0 v1 v2 v3 v4 v5 v6 : Value) :
    Below B w0 (((((((w.setCell ⟨b, 0, none⟩ v0).setCell ⟨b, 1, none⟩ v1).setCell ⟨b, 2, none⟩ v2).setCell ⟨b, 3, none⟩ v3).setCell ⟨b, 4, none⟩ v4).setCell ⟨b, 5, none⟩ v5).setCell ⟨b, 6, none⟩ v6) :=
  ((((((h.setCell hb _).setCell hb _).setCell hb _).setCell hb _).setCell hb _).setCell hb _).setCell hb _

set_option maxHeartbeats 1000000 in
set_option maxRecDepth 100000 in
theorem repeat_1 (N : Nat) (t : Int) (bits : Int) (str : ByteArray) (w : World) (G : Tab w) (ht : TL t 1) (hN : N ≤ 1024) :
    Calls Ybaf.prog 6 #[.agg #[.int .u8 t, .bool false, .int .u64 bits, .string str], .int .i64 N] w fun e w' => ∃ so sc, e = .returned (.agg (va t 1 (.slice so N sc) (.slice none 0 0))) ∧
      w'.ownsRow (w.heap.size + 3) 4 1 (.slice so N sc) N (List.replicate N (.bool (bits != 0))) ∧ Below w.heap.size w w' := by
  go_enter Ybaf.func6, Ybaf.ntmps6
  go_wp2
  go_loopw [15] (fun i wr => ∃ k : Nat, k ≤ N ∧ i = .int .i64 k ∧ RepInv (repW w t bits false str) wr (w.heap.size + 1 + 1) (w.heap.size + 3) t 1 k 4 (.bool (bits != 0))) (fun i _ => N - (intOf i).toNat)
  case atStart => exact ⟨0, Nat.zero_le _, rfl, none, 0, vec_start w t bits false str 1 (by omega), World.ownsRow_nil _ _ _ _, Turn.refl _ _⟩
  case round =>
    obtain ⟨k, hk, rfl, so, sc, kV, ko, kT⟩ := hrel
    have R := (rest_start w t bits false str).kept kT
    have b0 : wr.cell? ⟨w.heap.size, 0, none⟩ = some (.int .u8 t) := R.b 0
    have b1 : wr.cell? ⟨w.heap.size, 1, none⟩ = some (.bool false) := R.b 1
    have b2 : wr.cell? ⟨w.heap.size, 2, none⟩ = some (.int .u64 bits) := R.b 2
    have b3 : wr.cell? ⟨w.heap.size, 3, none⟩ = some (.string str) := R.b 3
    by_cases hlt : k < N
    · go_wp2_with (go_at_call 11; refine (append_1 (w.heap.size + 1 + 1) (w.heap.size + 3) k t bits str _ _ wr (R.tab G) ht kV ko (by omega) R.siz (by omega)).mono ?_; rintro e w' ⟨rfl, hap⟩)
      have S := rep_step ko kT hap
      go_roundw
      case rel => exact ⟨k + 1, by omega, by go_num, S⟩
      case measure => simp [intOf]; omega
    · obtain rfl : k = N := by omega
      have c0 : wr.cell? ⟨w.heap.size + 1 + 1, 0, none⟩ = some (.int .u8 t) := kV.cell 0
      have c1 : wr.cell? ⟨w.heap.size + 1 + 1, 1, none⟩ = some (.slice so k sc) := kV.cell 1
      have c2 : wr.cell? ⟨w.heap.size + 1 + 1, 2, none⟩ = some (.slice none 0 0) := kV.cell 2
      have c3 : wr.cell? ⟨w.heap.size + 1 + 1, 3, none⟩ = some (.slice none 0 0) := kV.cell 3
      have c4 : wr.cell? ⟨w.heap.size + 1 + 1, 4, none⟩ = some (.slice none 0 0) := kV.cell 4
      have c5 : wr.cell? ⟨w.heap.size + 1 + 1, 5, none⟩ = some (.slice none 0 0) := kV.cell 5
      have c6 : wr.cell? ⟨w.heap.size + 1 + 1, 6, none⟩ = some (.slice none 0 0) := kV.cell 6
      have r0 : wr.cell? ⟨w.heap.size + 1, 0, none⟩ = some (.int .u8 0) := R.res.cell 0
      have r1 : wr.cell? ⟨w.heap.size + 1, 1, none⟩ = some (.slice none 0 0) := R.res.cell 1
      have r2 : wr.cell? ⟨w.heap.size + 1, 2, none⟩ = some (.slice none 0 0) := R.res.cell 2
      have r3 : wr.cell? ⟨w.heap.size + 1, 3, none⟩ = some (.slice none 0 0) := R.res.cell 3
      have r4 : wr.cell? ⟨w.heap.size + 1, 4, none⟩ = some (.slice none 0 0) := R.res.cell 4
      have r5 : wr.cell? ⟨w.heap.size + 1, 5, none⟩ = some (.slice none 0 0) := R.res.cell 5
      have r6 : wr.cell? ⟨w.heap.size + 1, 6, none⟩ = some (.slice none 0 0) := R.res.cell 6
      have fz := R.res.fz
      have rlt := R.res.lt
      go_wp2
      refine bodyPost_ret (v := .agg #[.int .u8 t, .slice so k sc, .slice none 0 0, .slice none 0 0, .slice none 0 0, .slice none 0 0, .slice none 0 0]) (by simp [results, Ybaf.results6, go_sem, r0, r1, r2, r3, r4, r5, r6]) rfl ⟨so, sc, rfl, ?_, ?_⟩
      · exact own7 ko (by omega) _ _ _ _ _ _ _
      · exact bel7 R.bel (by omega) _ _ _ _ _ _ _

set_option maxHeartbeats 1000000 in
set_option maxRecDepth 100000 in
theorem repeat_2 (N : Nat) (t : Int) (bits : Int) (str : ByteArray) (w : World) (G : Tab w) (ht : TL t 2) (hN : N ≤ 1024) :
    Calls Ybaf.prog 6 #[.agg #[.int .u8 t, .bool false, .int .u64 bits, .string str], .int .i64 N] w fun e w' => ∃ so sc, e = .returned (.agg (va t 2 (.slice so N sc) (.slice none 0 0))) ∧
      w'.ownsRow (w.heap.size + 3) 2 1 (.slice so N sc) N (List.replicate N (.int .i64 (IntKind.i64.wrap bits))) ∧ Below w.heap.size w w' := by
  go_enter Ybaf.func6, Ybaf.ntmps6
  go_wp2
  go_loopw [15] (fun i wr => ∃ k : Nat, k ≤ N ∧ i = .int .i64 k ∧ RepInv (repW w t bits false str) wr (w.heap.size + 1 + 1) (w.heap.size + 3) t 2 k 2 (.int .i64 (IntKind.i64.wrap bits))) (fun i _ => N - (intOf i).toNat)
  case atStart => exact ⟨0, Nat.zero_le _, rfl, none, 0, vec_start w t bits false str 2 (by omega), World.ownsRow_nil _ _ _ _, Turn.refl _ _⟩
  case round =>
    obtain ⟨k, hk, rfl, so, sc, kV, ko, kT⟩ := hrel
    have R := (rest_start w t bits false str).kept kT
    have b0 : wr.cell? ⟨w.heap.size, 0, none⟩ = some (.int .u8 t) := R.b 0
    have b1 : wr.cell? ⟨w.heap.size, 1, none⟩ = some (.bool false) := R.b 1
    have b2 : wr.cell? ⟨w.heap.size, 2, none⟩ = some (.int .u64 bits) := R.b 2
    have b3 : wr.cell? ⟨w.heap.size, 3, none⟩ = some (.string str) := R.b 3
    by_cases hlt : k < N
    · go_wp2_with (go_at_call 11; refine (append_2 (w.heap.size + 1 + 1) (w.heap.size + 3) k t bits str _ _ wr (R.tab G) ht kV ko (by omega) R.siz (by omega)).mono ?_; rintro e w' ⟨rfl, hap⟩)
      have S := rep_step ko kT hap
      go_roundw
      case rel => exact ⟨k + 1, by omega, by go_num, S⟩
      case measure => simp [intOf]; omega
    · obtain rfl : k = N := by omega
      have c0 : wr.cell? ⟨w.heap.size + 1 + 1, 0, none⟩ = some (.int .u8 t) := kV.cell 0
      have c1 : wr.cell? ⟨w.heap.size + 1 + 1, 1, none⟩ = some (.slice none 0 0) := kV.cell 1
      have c2 : wr.cell? ⟨w.heap.size + 1 + 1, 2, none⟩ = some (.slice so k sc) := kV.cell 2
      have c3 : wr.cell? ⟨w.heap.size + 1 + 1, 3, none⟩ = some (.slice none 0 0) := kV.cell 3
      have c4 : wr.cell? ⟨w.heap.size + 1 + 1, 4, none⟩ = some (.slice none 0 0) := kV.cell 4
      have c5 : wr.cell? ⟨w.heap.size + 1 + 1, 5, none⟩ = some (.slice none 0 0) := kV.cell 5
      have c6 : wr.cell? ⟨w.heap.size + 1 + 1, 6, none⟩ = some (.slice none 0 0) := kV.cell 6
      have r0 : wr.cell? ⟨w.heap.size + 1, 0, none⟩ = some (.int .u8 0) := R.res.cell 0
      have r1 : wr.cell? ⟨w.heap.size + 1, 1, none⟩ = some (.slice none 0 0) := R.res.cell 1
      have r2 : wr.cell? ⟨w.heap.size + 1, 2, none⟩ = some (.slice none 0 0) := R.res.cell 2
      have r3 : wr.cell? ⟨w.heap.size + 1, 3, none⟩ = some (.slice none 0 0) := R.res.cell 3
      have r4 : wr.cell? ⟨w.heap.size + 1, 4, none⟩ = some (.slice none 0 0) := R.res.cell 4
      have r5 : wr.cell? ⟨w.heap.size + 1, 5, none⟩ = some (.slice none 0 0) := R.res.cell 5
      have r6 : wr.cell? ⟨w.heap.size + 1, 6, none⟩ = some (.slice none 0 0) := R.res.cell 6
      have fz := R.res.fz
      have rlt := R.res.lt
      go_wp2
      refine bodyPost_ret (v := .agg #[.int .u8 t, .slice none 0 0, .slice so k sc, .slice none 0 0, .slice none 0 0, .slice none 0 0, .slice none 0 0]) (by simp [results, Ybaf.results6, go_sem, r0, r1, r2, r3, r4, r5, r6]) rfl ⟨so, sc, rfl, ?_, ?_⟩
      · exact own7 ko (by omega) _ _ _ _ _ _ _
      · exact bel7 R.bel (by omega) _ _ _ _ _ _ _

set_option maxHeartbeats 1000000 in
set_option maxRecDepth 100000 in
theorem repeat_3 (N : Nat) (t : Int) (bits : Int) (str : ByteArray) (w : World) (G : Tab w) (ht : TL t 3) (hN : N ≤ 1024) :
    Calls Ybaf.prog 6 #[.agg #[.int .u8 t, .bool false, .int .u64 bits, .string str], .int .i64 N] w fun e w' => ∃ so sc, e = .returned (.agg (va t 3 (.slice so N sc) (.slice none 0 0))) ∧
      w'.ownsRow (w.heap.size + 3) 22 1 (.slice so N sc) N (List.replicate N (.int .u64 bits)) ∧ Below w.heap.size w w' := by
  go_enter Ybaf.func6, Ybaf.ntmps6
  go_wp2
  go_loopw [15] (fun i wr => ∃ k : Nat, k ≤ N ∧ i = .int .i64 k ∧ RepInv (repW w t bits false str) wr (w.heap.size + 1 + 1) (w.heap.size + 3) t 3 k 22 (.int .u64 bits)) (fun i _ => N - (intOf i).toNat)
  case atStart => exact ⟨0, Nat.zero_le _, rfl, none, 0, vec_start w t bits false str 3 (by omega), World.ownsRow_nil _ _ _ _, Turn.refl _ _⟩
  case round =>
    obtain ⟨k, hk, rfl, so, sc, kV, ko, kT⟩ := hrel
    have R := (rest_start w t bits false str).kept kT
    have b0 : wr.cell? ⟨w.heap.size, 0, none⟩ = some (.int .u8 t) := R.b 0
    have b1 : wr.cell? ⟨w.heap.size, 1, none⟩ = some (.bool false) := R.b 1
    have b2 : wr.cell? ⟨w.heap.size, 2, none⟩ = some (.int .u64 bits) := R.b 2
    have b3 : wr.cell? ⟨w.heap.size, 3, none⟩ = some (.string str) := R.b 3
    by_cases hlt : k < N
    · go_wp2_with (go_at_call 11; refine (append_3 (w.heap.size + 1 + 1) (w.heap.size + 3) k t bits str _ _ wr (R.tab G) ht kV ko (by omega) R.siz (by omega)).mono ?_; rintro e w' ⟨rfl, hap⟩)
      have S := rep_step ko kT hap
      go_roundw
      case rel => exact ⟨k + 1, by omega, by go_num, S⟩
      case measure => simp [intOf]; omega
    · obtain rfl : k = N := by omega
      have c0 : wr.cell? ⟨w.heap.size + 1 + 1, 0, none⟩ = some (.int .u8 t) := kV.cell 0
      have c1 : wr.cell? ⟨w.heap.size + 1 + 1, 1, none⟩ = some (.slice none 0 0) := kV.cell 1
      have c2 : wr.cell? ⟨w.heap.size + 1 + 1, 2, none⟩ = some (.slice none 0 0) := kV.cell 2
      have c3 : wr.cell? ⟨w.heap.size + 1 + 1, 3, none⟩ = some (.slice so k sc) := kV.cell 3
      have c4 : wr.cell? ⟨w.heap.size + 1 + 1, 4, none⟩ = some (.slice none 0 0) := kV.cell 4
      have c5 : wr.cell? ⟨w.heap.size + 1 + 1, 5, none⟩ = some (.slice none 0 0) := kV.cell 5
      have c6 : wr.cell? ⟨w.heap.size + 1 + 1, 6, none⟩ = some (.slice none 0 0) := kV.cell 6
      have r0 : wr.cell? ⟨w.heap.size + 1, 0, none⟩ = some (.int .u8 0) := R.res.cell 0
      have r1 : wr.cell? ⟨w.heap.size + 1, 1, none⟩ = some (.slice none 0 0) := R.res.cell 1
      have r2 : wr.cell? ⟨w.heap.size + 1, 2, none⟩ = some (.slice none 0 0) := R.res.cell 2
      have r3 : wr.cell? ⟨w.heap.size + 1, 3, none⟩ = some (.slice none 0 0) := R.res.cell 3
      have r4 : wr.cell? ⟨w.heap.size + 1, 4, none⟩ = some (.slice none 0 0) := R.res.cell 4
      have r5 : wr.cell? ⟨w.heap.size + 1, 5, none⟩ = some (.slice none 0 0) := R.res.cell 5
      have r6 : wr.cell? ⟨w.heap.size + 1, 6, none⟩ = some (.slice none 0 0) := R.res.cell 6
      have fz := R.res.fz
      have rlt := R.res.lt
      go_wp2
      refine bodyPost_ret (v := .agg #[.int .u8 t, .slice none 0 0, .slice none 0 0, .slice so k sc, .slice none 0 0, .slice none 0 0, .slice none 0 0]) (by simp [results, Ybaf.results6, go_sem, r0, r1, r2, r3, r4, r5, r6]) rfl ⟨so, sc, rfl, ?_, ?_⟩
      · exact own7 ko (by omega) _ _ _ _ _ _ _
      · exact bel7 R.bel (by omega) _ _ _ _ _ _ _

set_option maxHeartbeats 1000000 in
set_option maxRecDepth 100000 in
theorem repeat_4 (N : Nat) (t : Int) (bits : Int) (str : ByteArray) (w : World) (G : Tab w) (ht : TL t 4) (hN : N ≤ 1024) :
    Calls Ybaf.prog 6 #[.agg #[.int .u8 t, .bool false, .int .u64 bits, .string str], .int .i64 N] w fun e w' => ∃ so sc, e = .returned (.agg (va t 4 (.slice so N sc) (.slice none 0 0))) ∧
      w'.ownsRow (w.heap.size + 3) 36 1 (.slice so N sc) N (List.replicate N (.float .f64 bits.toNat)) ∧ Below w.heap.size w w' := by
  go_enter Ybaf.func6, Ybaf.ntmps6
  go_wp2
  go_loopw [15] (fun i wr => ∃ k : Nat, k ≤ N ∧ i = .int .i64 k ∧ RepInv (repW w t bits false str) wr (w.heap.size + 1 + 1) (w.heap.size + 3) t 4 k 36 (.float .f64 bits.toNat)) (fun i _ => N - (intOf i).toNat)
  case atStart => exact ⟨0, Nat.zero_le _, rfl, none, 0, vec_start w t bits false str 4 (by omega), World.ownsRow_nil _ _ _ _, Turn.refl _ _⟩
  case round =>
    obtain ⟨k, hk, rfl, so, sc, kV, ko, kT⟩ := hrel
    have R := (rest_start w t bits false str).kept kT
    have b0 : wr.cell? ⟨w.heap.size, 0, none⟩ = some (.int .u8 t) := R.b 0
    have b1 : wr.cell? ⟨w.heap.size, 1, none⟩ = some (.bool false) := R.b 1
    have b2 : wr.cell? ⟨w.heap.size, 2, none⟩ = some (.int .u64 bits) := R.b 2
    have b3 : wr.cell? ⟨w.heap.size, 3, none⟩ = some (.string str) := R.b 3
    by_cases hlt : k < N
    · go_wp2_with (go_at_call 11; refine (append_4 (w.heap.size + 1 + 1) (w.heap.size + 3) k t bits str _ _ wr (R.tab G) ht kV ko (by omega) R.siz (by omega)).mono ?_; rintro e w' ⟨rfl, hap⟩)
      have S := rep_step ko kT hap
      go_roundw
      case rel => exact ⟨k + 1, by omega, by go_num, S⟩
      case measure => simp [intOf]; omega
    · obtain rfl : k = N := by omega
      have c0 : wr.cell? ⟨w.heap.size + 1 + 1, 0, none⟩ = some (.int .u8 t) := kV.cell 0
      have c1 : wr.cell? ⟨w.heap.size + 1 + 1, 1, none⟩ = some (.slice none 0 0) := kV.cell 1
      have c2 : wr.cell? ⟨w.heap.size + 1 + 1, 2, none⟩ = some (.slice none 0 0) := kV.cell 2
      have c3 : wr.cell? ⟨w.heap.size + 1 + 1, 3, none⟩ = some (.slice none 0 0) := kV.cell 3
      have c4 : wr.cell? ⟨w.heap.size + 1 + 1, 4, none⟩ = some (.slice so k sc) := kV.cell 4
      have c5 : wr.cell? ⟨w.heap.size + 1 + 1, 5, none⟩ = some (.slice none 0 0) := kV.cell 5
      have c6 : wr.cell? ⟨w.heap.size + 1 + 1, 6, none⟩ = some (.slice none 0 0) := kV.cell 6
      have r0 : wr.cell? ⟨w.heap.size + 1, 0, none⟩ = some (.int .u8 0) := R.res.cell 0
      have r1 : wr.cell? ⟨w.heap.size + 1, 1, none⟩ = some (.slice none 0 0) := R.res.cell 1
      have r2 : wr.cell? ⟨w.heap.size + 1, 2, none⟩ = some (.slice none 0 0) := R.res.cell 2
      have r3 : wr.cell? ⟨w.heap.size + 1, 3, none⟩ = some (.slice none 0 0) := R.res.cell 3
      have r4 : wr.cell? ⟨w.heap.size + 1, 4, none⟩ = some (.slice none 0 0) := R.res.cell 4
      have r5 : wr.cell? ⟨w.heap.size + 1, 5, none⟩ = some (.slice none 0 0) := R.res.cell 5
      have r6 : wr.cell? ⟨w.heap.size + 1, 6, none⟩ = some (.slice none 0 0) := R.res.cell 6
      have fz := R.res.fz
      have rlt := R.res.lt
      go_wp2
      refine bodyPost_ret (v := .agg #[.int .u8 t, .slice none 0 0, .slice none 0 0, .slice none 0 0, .slice so k sc, .slice none 0 0, .slice none 0 0]) (by simp [results, Ybaf.results6, go_sem, r0, r1, r2, r3, r4, r5, r6]) rfl ⟨so, sc, rfl, ?_, ?_⟩
      · exact own7 ko (by omega) _ _ _ _ _ _ _
      · exact bel7 R.bel (by omega) _ _ _ _ _ _ _

set_option maxHeartbeats 1000000 in
set_option maxRecDepth 100000 in
theorem repeat_5 (N : Nat) (t : Int) (bits : Int) (str : ByteArray) (w : World) (G : Tab w) (ht : TL t 5) (hN : N ≤ 1024) :
    Calls Ybaf.prog 6 #[.agg #[.int .u8 t, .bool false, .int .u64 bits, .string str], .int .i64 N] w fun e w' => ∃ so sc, e = .returned (.agg (va t 5 (.slice so N sc) (.slice none 0 0))) ∧
      w'.ownsRow (w.heap.size + 3) 9 1 (.slice so N sc) N (List.replicate N (.string str)) ∧ Below w.heap.size w w' := by
  go_enter Ybaf.func6, Ybaf.ntmps6
  go_wp2
  go_loopw [15] (fun i wr => ∃ k : Nat, k ≤ N ∧ i = .int .i64 k ∧ RepInv (repW w t bits false str) wr (w.heap.size + 1 + 1) (w.heap.size + 3) t 5 k 9 (.string str)) (fun i _ => N - (intOf i).toNat)
  case atStart => exact ⟨0, Nat.zero_le _, rfl, none, 0, vec_start w t bits false str 5 (by omega), World.ownsRow_nil _ _ _ _, Turn.refl _ _⟩
  case round =>
    obtain ⟨k, hk, rfl, so, sc, kV, ko, kT⟩ := hrel
    have R := (rest_start w t bits false str).kept kT
    have b0 : wr.cell? ⟨w.heap.size, 0, none⟩ = some (.int .u8 t) := R.b 0
    have b1 : wr.cell? ⟨w.heap.size, 1, none⟩ = some (.bool false) := R.b 1
    have b2 : wr.cell? ⟨w.heap.size, 2, none⟩ = some (.int .u64 bits) := R.b 2
    have b3 : wr.cell? ⟨w.heap.size, 3, none⟩ = some (.string str) := R.b 3
    by_cases hlt : k < N
    · go_wp2_with (go_at_call 11; refine (append_5 (w.heap.size + 1 + 1) (w.heap.size + 3) k t bits str _ _ wr (R.tab G) ht kV ko (by omega) R.siz (by omega)).mono ?_; rintro e w' ⟨rfl, hap⟩)
      have S := rep_step ko kT hap
      go_roundw
      case rel => exact ⟨k + 1, by omega, by go_num, S⟩
      case measure => simp [intOf]; omega
    · obtain rfl : k = N := by omega
      have c0 : wr.cell? ⟨w.heap.size + 1 + 1, 0, none⟩ = some (.int .u8 t) := kV.cell 0
      have c1 : wr.cell? ⟨w.heap.size + 1 + 1, 1, none⟩ = some (.slice none 0 0) := kV.cell 1
      have c2 : wr.cell? ⟨w.heap.size + 1 + 1, 2, none⟩ = some (.slice none 0 0) := kV.cell 2
      have c3 : wr.cell? ⟨w.heap.size + 1 + 1, 3, none⟩ = some (.slice none 0 0) := kV.cell 3
      have c4 : wr.cell? ⟨w.heap.size + 1 + 1, 4, none⟩ = some (.slice none 0 0) := kV.cell 4
      have c5 : wr.cell? ⟨w.heap.size + 1 + 1, 5, none⟩ = some (.slice so k sc) := kV.cell 5
      have c6 : wr.cell? ⟨w.heap.size + 1 + 1, 6, none⟩ = some (.slice none 0 0) := kV.cell 6
      have r0 : wr.cell? ⟨w.heap.size + 1, 0, none⟩ = some (.int .u8 0) := R.res.cell 0
      have r1 : wr.cell? ⟨w.heap.size + 1, 1, none⟩ = some (.slice none 0 0) := R.res.cell 1
      have r2 : wr.cell? ⟨w.heap.size + 1, 2, none⟩ = some (.slice none 0 0) := R.res.cell 2
      have r3 : wr.cell? ⟨w.heap.size + 1, 3, none⟩ = some (.slice none 0 0) := R.res.cell 3
      have r4 : wr.cell? ⟨w.heap.size + 1, 4, none⟩ = some (.slice none 0 0) := R.res.cell 4
      have r5 : wr.cell? ⟨w.heap.size + 1, 5, none⟩ = some (.slice none 0 0) := R.res.cell 5
      have r6 : wr.cell? ⟨w.heap.size + 1, 6, none⟩ = some (.slice none 0 0) := R.res.cell 6
      have fz := R.res.fz
      have rlt := R.res.lt
      go_wp2
      refine bodyPost_ret (v := .agg #[.int .u8 t, .slice none 0 0, .slice none 0 0, .slice none 0 0, .slice none 0 0, .slice so k sc, .slice none 0 0]) (by simp [results, Ybaf.results6, go_sem, r0, r1, r2, r3, r4, r5, r6]) rfl ⟨so, sc, rfl, ?_, ?_⟩
      · exact own7 ko (by omega) _ _ _ _ _ _ _
      · exact bel7 R.bel (by omega) _ _ _ _ _ _ _

end Go.Proofs.YbulkajnkFmt
