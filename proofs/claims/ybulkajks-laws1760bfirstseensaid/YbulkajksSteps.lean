import Derived.Test.YbulkajksIndex
import Derived.Test.YbulkajksAccount
import Derived.Deep.Draws
namespace Go.Proofs.Ybulkajks
open Go.RowKit Go.Maps

/-- The cells of a row of strings. -/
theorem str_cells {w : World} {base g n cap : Nat} {S : List ByteArray} (ho : w.ownsRow base 9 1 (.slice (some ⟨g, 0, none⟩) n cap) n (S.map .string)) (j : Nat) (hj : j < n) :
    w.cell? ⟨g, j, none⟩ = some (.string (S.getD j ByteArray.empty)) := by
  have hl := ho.1
  simp at hl
  rw [ho.cellAt j (by omega), List.getElem?_map, List.getElem?_eq_getElem (by omega), List.getD_eq_getElem?_getD, List.getElem?_eq_getElem (by omega)]
  rfl

theorem row_some {w : World} {base : Nat} {e : TypeId} {size : Nat} {ao : Option Addr} {n cap : Nat} {xs : List Value} (h : w.ownsRow base e size (.slice ao n cap) n xs) (hn : 0 < n) : ∃ g, ao = some ⟨g, 0, none⟩ := by
  rcases h.2 with ⟨_, h0⟩ | ⟨g, c, _, e1, _⟩
  · omega
  · simp at e1
    exact ⟨g, e1.1⟩

theorem index_absent (ao : Option Addr) (base n cap : Nat) (S : List ByteArray) (x : ByteArray) (w : World) (ho : w.ownsRow base 9 1 (.slice ao n cap) n (S.map .string)) (hn : n ≤ 1024) (hx : x ∉ S) :
    Calls Yba.prog 4 #[.slice ao n cap, .string x] w fun e w' => e = .returned (.int .i64 (-1)) ∧ w = w' := by
  have hl := ho.1
  simp at hl
  by_cases h0 : n = 0
  · subst h0
    exact (index_none ao cap x w).mono fun _ _ h => ⟨h.1, h.2.symm⟩
  · obtain ⟨g, rfl⟩ := row_some ho (by omega)
    exact (index_out g n cap S x w hn hl (str_cells ho) hx).mono fun _ _ h => ⟨h.1, h.2.symm⟩

theorem index_present (ao : Option Addr) (base n cap m : Nat) (S : List ByteArray) (x : ByteArray) (w : World) (ho : w.ownsRow base 9 1 (.slice ao n cap) n (S.map .string)) (hn : n ≤ 1024) (hm : S[m]? = some x) (hnd : S.Nodup) :
    Calls Yba.prog 4 #[.slice ao n cap, .string x] w fun e w' => e = .returned (.int .i64 m) ∧ w = w' := by
  have hl := ho.1
  simp at hl
  obtain ⟨hlt, hm'⟩ := List.getElem?_eq_some_iff.1 hm
  obtain ⟨g, rfl⟩ := row_some ho (by omega)
  refine (index_in g n cap m S x w hn hl (str_cells ho) (by omega) (by rw [List.getD_eq_getElem?_getD, hm]; rfl) (fun j hj e => ?_)).mono fun _ _ h => ⟨h.1, h.2.symm⟩
  rw [List.getD_eq_getElem?_getD, List.getElem?_eq_getElem (by omega)] at e
  simp only [Option.getD_some] at e
  exact absurd ((List.getElem_inj hnd).1 (e.trans hm'.symm)) (by omega)

theorem account_there (L : Nat) (mo : Option Nat) (nv hv : Value) (S : List ByteArray) (x : ByteArray) (m : Nat) (w : World) (h : Led w L mo nv hv S) (hx : S[m]? = some x) (hlen : x.size ≤ maxLen) :
    Calls Yba.prog 5 #[.pointer (some ⟨L, 0, none⟩), .string x] w fun e w' => e = .returned (.int .i64 m) ∧ w = w' :=
  (account_in L mo nv hv S x m w h hx hlen).mono fun _ _ h => ⟨h.1, h.2.symm⟩

/-- What account leaves where the name is new. -/
def Acc (w w' : World) (L : Nat) (mo : Option Nat) (nv hv : Value) (S' : List ByteArray) : Prop :=
  ∃ mo' nv' hv', Led w' L mo' nv' hv' S' ∧ Turn w w' (ledBs L mo nv hv) ∧ ∀ j, nv'.ownBlock = some j → nv.ownBlock = some j ∨ w.heap.size ≤ j

theorem account_out (L : Nat) (mo : Option Nat) (nv hv : Value) (S : List ByteArray) (x : ByteArray) (w : World) (h : Led w L mo nv hv S) (hx : x ∉ S) (hlen : x.size ≤ maxLen) (hS : S.length ≤ 1024) :
    Calls Yba.prog 5 #[.pointer (some ⟨L, 0, none⟩), .string x] w fun e w' => e = .returned (.int .i64 S.length) ∧ Acc w w' L mo nv hv (S ++ [x]) := by
  rcases h.map with ⟨rfl, rfl⟩ | ⟨B, D, rfl, hB, hm, hd⟩
  · refine (account_first L nv hv x w h hlen).mono ?_
    rintro e w' ⟨rfl, B, g2, c2, hv', h1, h2, h3⟩
    exact ⟨rfl, _, _, _, h1, h2, fun j hj => by simp [Value.ownBlock] at hj; subst hj; exact h3⟩
  · refine (account_new L B nv hv S D x w h hB hm hd hx hlen hS).mono ?_
    rintro e w' ⟨rfl, g2, c2, hv', h1, h2, h3⟩
    exact ⟨rfl, _, _, _, h1, h2, fun j hj => by simp [Value.ownBlock] at hj; subst hj; exact h3⟩

/-- The loop's relation: the names so far, in the ledger and beside it. -/
def Inv (w wr : World) (k : Nat) (v : Value) : Prop :=
  ∃ S mo nv hv, Led wr w.heap.size mo nv hv S ∧ wr.ownsRow (w.heap.size + 1) 9 1 v S.length (S.map .string) ∧ (∀ j, v.ownBlock = some j → nv.ownBlock ≠ some j) ∧ Below w.heap.size w wr ∧ S.length ≤ k ∧ S.Nodup ∧ ∀ s ∈ S, s.size ≤ maxLen

/-- The row of the names beside lies in no block of the ledger's. -/
theorem beside {wr : World} {L : Nat} {mo : Option Nat} {nv hv : Value} {S : List ByteArray} (h : Led wr L mo nv hv S) {v : Value} {n : Nat} {xs : List Value} (ho : wr.ownsRow (L + 1) 9 1 v n xs) (hne : ∀ j, v.ownBlock = some j → nv.ownBlock ≠ some j) :
    ∀ k, ledBs L mo nv hv k → v.ownBlock ≠ some k := by
  intro k hk e
  rcases hk with rfl | q | q | q
  · exact row_ne ho (Nat.lt_succ_self _) e
  · exact hne k e q
  · exact row_apart ho h.held (by decide) k e q
  · rcases h.map with ⟨e0, _⟩ | ⟨B, D, e0, _, hm, _⟩
    · rw [e0] at q; cases q
    · rw [e0] at q
      simp at q
      subst q
      exact row_map ho hm e

/-- One round with a new name: the row beside has grown (w1), then the ledger (w2). -/
theorem inv_new {w wr w1 w2 : World} {k g c : Nat} {S : List ByteArray} {mo : Option Nat} {nv hv v : Value} {x : ByteArray} {o : Obj}
    (h : Led wr w.heap.size mo nv hv S) (hne : ∀ j, v.ownBlock = some j → nv.ownBlock ≠ some j) (hB : Below w.heap.size w wr) (hl : S.length ≤ k) (hnd : S.Nodup) (hsz : ∀ s ∈ S, s.size ≤ maxLen) (hx : x ∉ S) (hxs : x.size ≤ maxLen) (ho : wr.ownsRow (w.heap.size + 1) 9 1 v S.length (S.map .string))
    (r1 : w1.ownsRow (w.heap.size + 1) 9 1 (.slice (some ⟨g, 0, none⟩) (S.length + 1) c) (S.length + 1) (S.map .string ++ [.string x])) (t1 : (wr.alloc o).grownBy w1 v.ownBlock) (l1 : v.ownBlock = some g ∨ g = (wr.alloc o).heap.size) :
    Led w1 w.heap.size mo nv hv S ∧ (Acc w1 w2 w.heap.size mo nv hv (S ++ [x]) → Inv w w2 (k + 1) (.slice (some ⟨g, 0, none⟩) (S.length + 1) c)) := by
  have hLt := h.lt
  have T1 : Turn wr w1 (fun k => v.ownBlock = some k) := (Turn.alloc _ _ _).trans (Turn.grown t1 (fun k e => e))
  have B1 : Below w.heap.size w w1 := T1.below hB hB.size (fun k hk e => by have := (ho.lt k e).1; omega)
  have h1 : Led w1 w.heap.size mo nv hv S := h.kept T1 (fun k hk e => beside h ho hne k hk e)
  have ngne : nv.ownBlock ≠ some g := by
    rcases l1 with e | e
    · exact hne g e
    · intro q
      have := (h.names.lt g q).2
      subst e
      simp at this
      omega
  refine ⟨h1, ?_⟩
  rintro ⟨mo', nv', hv', h2, T2, loc⟩
  have hg1 := (r1.lt g rfl).2
  have bs := beside h1 r1 (fun j hj => by simp [Value.ownBlock] at hj; subst hj; exact ngne)
  refine ⟨S ++ [x], mo', nv', hv', h2, ?_, ?_, ?_, by simp; omega, ?_, ?_⟩
  · rw [List.map_append, List.length_append]
    exact T2.row r1 (fun j hj q => bs j q hj)
  · intro j hj q
    simp [Value.ownBlock] at hj
    subst hj
    rcases loc g q with e | e
    · exact ngne e
    · omega
  · refine T2.below B1 B1.size (fun j hj q => ?_)
    rcases q with q | q | q | q
    · omega
    · have := (h1.names.lt j q).1; omega
    · have := (h1.held.lt j q).1; omega
    · rcases h1.map with ⟨e0, _⟩ | ⟨B, D, e0, hlB, _, _⟩
      · rw [e0] at q; cases q
      · rw [e0] at q; simp at q; omega
  · rw [List.nodup_append]
    exact ⟨hnd, by simp, fun a ha b hb e => by simp at hb; subst hb; subst e; exact hx ha⟩
  · intro s hs
    rcases List.mem_append.1 hs with hs | hs
    · exact hsz s hs
    · simp at hs; subst hs; exact hxs

/-- 'len' of the ledger's map. -/
theorem Led.lenmap {w : World} {L : Nat} {mo : Option Nat} {nv hv : Value} {S : List ByteArray} (h : Led w L mo nv hv S) (ty : TypeId) : (Builtin.len_ #[24] ty #[.map mo]).run Yba.prog w = .ok (.int .i64 S.length) w := by
  rcases h.map with ⟨rfl, rfl⟩ | ⟨B, D, rfl, _, hm, hd⟩
  · exact Maps.len_nil Yba.underlying24 ty
  · rw [hm.len Yba.underlying24 ty, hd.size]

/-- The zero ledger, boxed. -/
theorem led_zero (w : World) :
    Led (w.alloc (.cells #[.map none, .slice none 0 0, .slice none 0 0, .slice none 0 0, .slice none 0 0, .int .i64 0, .int .i64 0, .map none, .slice none 0 0, .int .u64 0, .int .u64 0, .int .u64 0, .int .u64 0, .int .u64 0, .int .u64 0, .int .u64 0, .int .u64 0, .int .u64 0, .int .u64 0, .slice none 0 0] 37)) w.heap.size none (.slice none 0 0) (.slice none 0 0) [] := by
  refine ⟨?_, ?_, ?_, ?_, by simp, World.ownsRow_nil _ _ _ _, World.ownsRow_nil _ _ _ _, .inl ⟨rfl, rfl⟩⟩
  · rw [World.cell?_alloc_new]; simp
  · rw [World.cell?_alloc_new]; simp
  · rw [World.cell?_alloc_new]; simp
  · intro j; exact World.frozen?_alloc_new _ _ _ _

theorem inv_zero (w : World) : Inv w (w.alloc (.cells #[.map none, .slice none 0 0, .slice none 0 0, .slice none 0 0, .slice none 0 0, .int .i64 0, .int .i64 0, .map none, .slice none 0 0, .int .u64 0, .int .u64 0, .int .u64 0, .int .u64 0, .int .u64 0, .int .u64 0, .int .u64 0, .int .u64 0, .int .u64 0, .int .u64 0, .slice none 0 0] 37)) 0 (.slice none 0 0) :=
  ⟨[], none, .slice none 0 0, .slice none 0 0, led_zero w, World.ownsRow_nil _ _ _ _, fun j hj => by simp [Value.ownBlock] at hj, (Below.refl _ _).alloc (Nat.le_refl _) _, Nat.le_refl _, List.nodup_nil, fun s hs => by simp at hs⟩

theorem Led.drewN {w : World} {L : Nat} {mo : Option Nat} {nv hv : Value} {S : List ByteArray} (h : Led w L mo nv hv S) (n : Nat) : Led (w.drewN n) L mo nv hv S :=
  h.kept (bs := fun _ => False) ⟨rfl, rfl, rfl, Nat.le_refl _, fun _ _ _ => rfl⟩ (fun _ _ q => q)

theorem Led.drew {w : World} {L : Nat} {mo : Option Nat} {nv hv : Value} {S : List ByteArray} (h : Led w L mo nv hv S) : Led w.drew L mo nv hv S :=
  h.kept (bs := fun _ => False) ⟨rfl, rfl, rfl, Nat.le_refl _, fun _ _ _ => rfl⟩ (fun _ _ q => q)

/-- The cells of the row of amounts. -/
theorem held_cells {w : World} {base g n cap : Nat} (ho : w.ownsRow base 33 4 (.slice (some ⟨g, 0, none⟩) n cap) n (List.replicate (n * 4) (.int .u64 0))) (j : Nat) (hj : j < n * 4) :
    w.cell? ⟨g, j, none⟩ = some (.int .u64 0) := by
  rw [ho.cellAt j hj, List.getElem?_replicate, if_pos hj]

theorem neq33 (w : World) : (binOp .neq 33 (.agg #[.int .u64 0, .int .u64 0, .int .u64 0, .int .u64 0]) (.agg #[.int .u64 0, .int .u64 0, .int .u64 0, .int .u64 0])).run Yba.prog w = .ok (.bool false) w := by kernel_rfl

end Go.Proofs.Ybulkajks
