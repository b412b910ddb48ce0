import Derived.Test.YbulkajmwReads
import Derived.Deep.Draws
namespace Go.Proofs.Ybulkajmw
open Go.RowKit

/-- The first loop's relation: both transactions, the earlier readers in the writer's row and in the row beside. -/
def Inv (w wr : World) (a1 : Bool) (a2 a3 : Int) (i : Nat) (v : Value) : Prop :=
  ∃ (ps : List Nat) (rv : Value), IsTx wr w.heap.size 1 false a2 (.slice none 0 0) ∧ IsTx wr (w.heap.size + 1) 2 a1 a3 rv ∧ wr.ownsRow (w.heap.size + 2) 22 1 v i (ps.map pv) ∧ wr.ownsRow (w.heap.size + 2) 22 1 rv i (ps.map pv) ∧
    (∀ j, v.ownBlock = some j → rv.ownBlock ≠ some j) ∧ Below w.heap.size w wr

theorem inv_zero {w w0 : World} {a1 : Bool} {a2 a3 : Int} {K : Nat} {g : Nat} (hg : ((w.alloc (.cells (tx 1 false a2 (.slice none 0 0)) 29)).alloc (.cells (tx 2 a1 a3 (.slice none 0 0)) 29)).grownBy w0 none)
    (ho : w0.ownsRow (w.heap.size + 2) 22 1 (.slice (some ⟨g, 0, none⟩) 0 K) 0 []) : Inv w w0 a1 a2 a3 0 (.slice (some ⟨g, 0, none⟩) 0 K) := by
  have T : Turn ((w.alloc (.cells (tx 1 false a2 (.slice none 0 0)) 29)).alloc (.cells (tx 2 a1 a3 (.slice none 0 0)) 29)) w0 (fun _ => False) := Turn.grown hg (fun k e => by cases e)
  have i1 : IsTx ((w.alloc (.cells (tx 1 false a2 (.slice none 0 0)) 29)).alloc (.cells (tx 2 a1 a3 (.slice none 0 0)) 29)) w.heap.size 1 false a2 (.slice none 0 0) := by
    have h0 : IsTx (w.alloc (.cells (tx 1 false a2 (.slice none 0 0)) 29)) w.heap.size 1 false a2 (.slice none 0 0) := heap_alloc_new w _
    exact h0.kept (Turn.alloc _ _ (fun _ => False)) id
  have i2 : IsTx ((w.alloc (.cells (tx 1 false a2 (.slice none 0 0)) 29)).alloc (.cells (tx 2 a1 a3 (.slice none 0 0)) 29)) (w.heap.size + 1) 2 a1 a3 (.slice none 0 0) := by
    have h0 := heap_alloc_new (w.alloc (.cells (tx 1 false a2 (.slice none 0 0)) 29)) (.cells (tx 2 a1 a3 (.slice none 0 0)) 29)
    rw [World.size_alloc] at h0
    exact h0
  refine ⟨[], .slice none 0 0, i1.kept T id, i2.kept T id, ho, World.ownsRow_nil _ _ _ _, fun j _ q => by simp [Value.ownBlock] at q, ?_⟩
  exact T.below (((Below.refl _ _).alloc (Nat.le_refl _) _).alloc (by simp) _) (by simp; omega) (fun _ _ q => q)

/-- One round: the new transaction p is appended to the row beside (w1), then to the writer's readers (w2). -/
theorem inv_step {w wr w1 w2 : World} {a1 : Bool} {a2 a3 : Int} {i b g1 c1 g2 c2 : Nat} {ps : List Nat} {v rv : Value} {o0 o1 o2 : Obj}
    (hT : IsTx wr w.heap.size 1 false a2 (.slice none 0 0)) (hW : IsTx wr (w.heap.size + 1) 2 a1 a3 rv) (hv : wr.ownsRow (w.heap.size + 2) 22 1 v i (ps.map pv)) (hr : wr.ownsRow (w.heap.size + 2) 22 1 rv i (ps.map pv))
    (hne : ∀ j, v.ownBlock = some j → rv.ownBlock ≠ some j) (hB : Below w.heap.size w wr)
    (r1 : w1.ownsRow (w.heap.size + 2) 22 1 (.slice (some ⟨g1, 0, none⟩) (i + 1) c1) (i + 1) (ps.map pv ++ [pv b])) (t1 : ((wr.alloc o0).alloc o1).grownBy w1 v.ownBlock) (l1 : v.ownBlock = some g1 ∨ g1 = ((wr.alloc o0).alloc o1).heap.size) :
    IsTx w1 (w.heap.size + 1) 2 a1 a3 rv ∧ w1.ownsRow (w.heap.size + 2) 22 1 rv i (ps.map pv) ∧ w.heap.size + 2 ≤ w1.heap.size ∧
    (w2.ownsRow (w.heap.size + 2) 22 1 (.slice (some ⟨g2, 0, none⟩) (i + 1) c2) (i + 1) (ps.map pv ++ [pv b]) → (w1.alloc o2).grownBy w2 rv.ownBlock → (rv.ownBlock = some g2 ∨ g2 = (w1.alloc o2).heap.size) →
      Inv w (w2.setCell ⟨w.heap.size + 1, 9, none⟩ (.slice (some ⟨g2, 0, none⟩) (i + 1) c2)) a1 a2 a3 (i + 1) (.slice (some ⟨g1, 0, none⟩) (i + 1) c1)) := by
  have T1 : Turn wr w1 (fun k => v.ownBlock = some k) := ((Turn.alloc _ _ _).trans (Turn.alloc _ _ _)).trans (Turn.grown t1 (fun k e => e))
  have vT := row_ne hv (show w.heap.size < w.heap.size + 2 by omega)
  have vW := row_ne hv (show w.heap.size + 1 < w.heap.size + 2 by omega)
  have rT := row_ne hr (show w.heap.size < w.heap.size + 2 by omega)
  have rW := row_ne hr (show w.heap.size + 1 < w.heap.size + 2 by omega)
  have W1 := hW.kept T1 vW
  have T1' := hT.kept T1 vT
  have R1 := T1.row hr (fun k e q => hne k q e)
  have hlt := W1.lt
  have apart : rv.ownBlock ≠ some g1 := by
    rcases l1 with e | e
    · exact hne g1 e
    · intro q
      have := (hr.lt g1 q).2
      subst e
      simp at this
      omega
  refine ⟨W1, R1, by omega, ?_⟩
  intro r2 t2 l2
  have T2 : Turn w1 w2 (fun k => rv.ownBlock = some k) := (Turn.alloc _ _ _).trans (Turn.grown t2 (fun k e => e))
  have T3 : Turn w2 (w2.setCell ⟨w.heap.size + 1, 9, none⟩ (.slice (some ⟨g2, 0, none⟩) (i + 1) c2)) (fun k => k = w.heap.size + 1) := Turn.setCell _ _ _ rfl
  have g1b := (r1.lt g1 rfl)
  have g2b := (r2.lt g2 rfl).1
  have hne2 : g1 ≠ g2 := by
    rcases l2 with e | e
    · intro q; subst q; exact apart e
    · intro q; subst q; subst e; simp at g1b; omega
  refine ⟨ps ++ [b], .slice (some ⟨g2, 0, none⟩) (i + 1) c2, (T1'.kept T2 rT).kept T3 (by omega), (W1.kept T2 rW).set9 _, ?_, ?_, ?_, ?_⟩
  · rw [List.map_append]
    exact T3.row (T2.row r1 (fun k e => by simp [Value.ownBlock] at e; subst e; exact apart)) (fun k e => by simp [Value.ownBlock] at e; omega)
  · rw [List.map_append]
    exact T3.row r2 (fun k e => by simp [Value.ownBlock] at e; omega)
  · intro j hj q
    simp [Value.ownBlock] at hj q
    omega
  · have B1 := T1.below hB hB.size (fun k hk q => by have := (hv.lt k q).1; omega)
    have B2 := T2.below B1 B1.size (fun k hk q => by have := (hr.lt k q).1; omega)
    exact T3.below B2 B2.size (fun k hk q => by omega)

/-- What the law looks at behind the call: t and w, the row of readers, the row beside. -/
structure Fin (w wr : World) (a1 : Bool) (rf a3 : Int) (i n : Nat) (po : Option Addr) (gr c cr : Nat) (ps : List Nat) (more : List Value) : Prop where
  t : IsTx wr w.heap.size 1 false rf (.slice none 0 0)
  x : IsTx wr (w.heap.size + 1) 2 a1 a3 (.slice (some ⟨gr, 0, none⟩) n cr)
  p : wr.ownsRow (w.heap.size + 2) 22 1 (.slice po i c) i (ps.map pv)
  r : wr.ownsRow (w.heap.size + 2) 22 1 (.slice (some ⟨gr, 0, none⟩) n cr) n (ps.map pv ++ more)
  b : Below w.heap.size w wr

theorem row_some {w : World} {base : Nat} {e : TypeId} {size : Nat} {ao : Option Addr} {n cap : Nat} {xs : List Value} (h : w.ownsRow base e size (.slice ao n cap) n xs) (hn : 0 < n) : ∃ g, ao = some ⟨g, 0, none⟩ := by
  rcases h.2 with ⟨_, h0⟩ | ⟨g, c, _, e1, _⟩
  · omega
  · simp at e1
    exact ⟨g, e1.1⟩

/-- Both rows hold the same pointer at place m. -/
theorem Fin.both {w wr : World} {a1 : Bool} {rf a3 : Int} {i n g gr c cr : Nat} {ps : List Nat} {more : List Value} (F : Fin w wr a1 rf a3 i n (some ⟨g, 0, none⟩) gr c cr ps more) (m : Nat) (hm : m < i) (hn : i ≤ n) :
    ∃ y, wr.cell? ⟨g, m, none⟩ = some (.pointer (some ⟨y, 0, none⟩)) ∧ wr.cell? ⟨gr, m, none⟩ = some (.pointer (some ⟨y, 0, none⟩)) := by
  have hl := F.p.1
  simp at hl
  have h1 := F.p.cellAt m (by omega)
  have h2 := F.r.cellAt m (by omega)
  rw [List.getElem?_append_left (by simp; omega)] at h2
  rw [List.getElem?_map, List.getElem?_eq_getElem (by omega)] at h1 h2
  exact ⟨_, h1, h2⟩

theorem Fin.drewN {w wr : World} {a1 : Bool} {rf a3 : Int} {i n gr c cr : Nat} {po : Option Addr} {ps : List Nat} {more : List Value} (F : Fin w wr a1 rf a3 i n po gr c cr ps more) (q : Nat) : Fin w (wr.drewN q) a1 rf a3 i n po gr c cr ps more :=
  ⟨F.t, F.x, F.p, F.r, F.b.os, F.b.tape, F.b.output, F.b.size, F.b.block⟩

/-- The last reader is t. -/
theorem Fin.last {w wr : World} {a1 : Bool} {rf a3 : Int} {i gr c cr : Nat} {po : Option Addr} {ps : List Nat} {y : Value} (F : Fin w wr a1 rf a3 i (i + 1) po gr c cr ps [y]) : wr.cell? ⟨gr, i, none⟩ = some y := by
  have hl := F.p.1
  simp at hl
  rw [F.r.cellAt i (by omega), List.getElem?_append_right (by simp; omega)]
  simp [hl]

theorem Fin.last_at {w wr : World} {a1 : Bool} {rf a3 : Int} {i gr c cr : Nat} {po : Option Addr} {ps : List Nat} {y : Value} (F : Fin w wr a1 rf a3 i (i + 1) po gr c cr ps [y]) {j : Nat} (hj : j = i) : wr.cell? ⟨gr, j, none⟩ = some y := by
  rw [hj]
  exact F.last

/-- readsFrom where w is open: t is appended, and counts one read more. -/
theorem reads_open {w wr : World} {a2 a3 : Int} {k vcap rcap : Nat} {vo ro : Option Addr} {ps : List Nat}
    (hT : IsTx wr w.heap.size 1 false a2 (.slice none 0 0)) (hW : IsTx wr (w.heap.size + 1) 2 false a3 (.slice ro k rcap)) (hv : wr.ownsRow (w.heap.size + 2) 22 1 (.slice vo k vcap) k (ps.map pv)) (hr : wr.ownsRow (w.heap.size + 2) 22 1 (.slice ro k rcap) k (ps.map pv))
    (hne : ∀ j, (Value.slice vo k vcap).ownBlock = some j → (Value.slice ro k rcap).ownBlock ≠ some j) (hB : Below w.heap.size w wr) (hk : k ≤ 7) :
    Calls Yba.prog 4 #[.pointer (some ⟨w.heap.size, 0, none⟩), .pointer (some ⟨w.heap.size + 1, 0, none⟩)] wr fun e w' => e = .returned (.tuple #[]) ∧
      ∃ gr cr, Fin w w' false (wrap64 (a2 + 1)) a3 k (k + 1) vo gr vcap cr ps [.pointer (some ⟨w.heap.size, 0, none⟩)] := by
  have hlt := hW.lt
  refine (reads_active w.heap.size (w.heap.size + 1) k 1 2 false a2 a3 _ _ _ wr (by omega) hT hW (w.heap.size + 2) hr (by omega) (by omega) (by omega) (by omega)).mono ?_
  rintro e w' ⟨rfl, g, c, w1, r1, t1, _, rfl⟩
  have rT := row_ne hr (show w.heap.size < w.heap.size + 2 by omega)
  have rW := row_ne hr (show w.heap.size + 1 < w.heap.size + 2 by omega)
  have T1 : Turn wr w1 (fun k' => (Value.slice ro k rcap).ownBlock = some k') := (Turn.alloc _ _ _).trans (Turn.grown t1 (fun k e => e))
  have T2 : Turn w1 (w1.setCell ⟨w.heap.size + 1, 9, none⟩ (.slice (some ⟨g, 0, none⟩) (k + 1) c)) (fun k' => k' = w.heap.size + 1) := Turn.setCell (bs := fun k' => k' = w.heap.size + 1) _ _ _ rfl
  have T3 : Turn (w1.setCell ⟨w.heap.size + 1, 9, none⟩ (.slice (some ⟨g, 0, none⟩) (k + 1) c)) ((w1.setCell ⟨w.heap.size + 1, 9, none⟩ (.slice (some ⟨g, 0, none⟩) (k + 1) c)).setCell ⟨w.heap.size, 8, none⟩ (.int .i64 (wrap64 (a2 + 1)))) (fun k' => k' = w.heap.size) := Turn.setCell (bs := fun k' => k' = w.heap.size) _ _ _ rfl
  refine ⟨rfl, g, c, ((hT.kept T1 rT).kept T2 (by omega)).set8 _, ((hW.kept T1 rW).set9 _).kept T3 (by omega), ?_, ?_, ?_⟩
  · exact T3.row (T2.row (T1.row hv (fun j e q => hne j e q)) (fun j e => by have := (hv.lt j e).1; omega)) (fun j e => by have := (hv.lt j e).1; omega)
  · have := (r1.lt g rfl).1
    exact T3.row (T2.row r1 (fun j e => by simp [Value.ownBlock] at e; omega)) (fun j e => by simp [Value.ownBlock] at e; omega)
  · have B1 := T1.below hB hB.size (fun j hj q => by have := (hr.lt j q).1; omega)
    have B2 := T2.below B1 B1.size (fun j hj q => by omega)
    exact T3.below B2 B2.size (fun j hj q => by omega)

end Go.Proofs.Ybulkajmw
