import Derived.Test.YbulkajksParts
namespace Go.Proofs.Ybulkajks
open Go.RowKit Go.Maps

/-- w' is w but for new blocks and for the blocks of the set bs. -/
structure Turn (w w' : World) (bs : Nat → Prop) : Prop where
  os : w'.os = w.os
  tape : w'.tape = w.tape
  output : w'.output = w.output
  size : w.heap.size ≤ w'.heap.size
  block : ∀ k, k < w.heap.size → ¬ bs k → w'.heap[k]? = w.heap[k]?

theorem Turn.refl (w : World) (bs : Nat → Prop) : Turn w w bs := ⟨rfl, rfl, rfl, Nat.le_refl _, fun _ _ _ => rfl⟩
theorem Turn.trans {a b c : World} {bs : Nat → Prop} (h : Turn a b bs) (k : Turn b c bs) : Turn a c bs :=
  ⟨k.os.trans h.os, k.tape.trans h.tape, k.output.trans h.output, Nat.le_trans h.size k.size, fun i hi hn => (k.block i (Nat.lt_of_lt_of_le hi h.size) hn).trans (h.block i hi hn)⟩
theorem Turn.grown {w w' : World} {row : Option Nat} {bs : Nat → Prop} (h : w.grownBy w' row) (hr : ∀ k, row = some k → bs k) : Turn w w' bs :=
  ⟨h.os, h.tape, h.output, h.size, fun k hk hn => h.block k hk (fun e => hn (hr k e.symm))⟩
theorem Turn.alloc (w : World) (o : Obj) (bs : Nat → Prop) : Turn w (w.alloc o) bs := Turn.grown (World.grownBy_alloc w o none) (fun _ h => by cases h)
theorem Turn.setCell (w : World) (a : Addr) (u : Value) {bs : Nat → Prop} (h : bs a.block) : Turn w (w.setCell a u) bs :=
  ⟨rfl, rfl, rfl, by simp, fun k _ hn => Below.heap_setCell w a u k (fun e => hn (by rw [e]; exact h))⟩
theorem Turn.weaken {w w' : World} {bs bs' : Nat → Prop} (h : Turn w w' bs) (hb : ∀ k, k < w.heap.size → bs k → bs' k) : Turn w w' bs' :=
  ⟨h.os, h.tape, h.output, h.size, fun k hk hn => h.block k hk (fun b => hn (hb k hk b))⟩

theorem Turn.comp {a b c : World} {bs bs' : Nat → Prop} (h : Turn a b bs) (k : Turn b c bs') (hk : ∀ i, i < a.heap.size → bs' i → bs i) : Turn a c bs :=
  ⟨k.os.trans h.os, k.tape.trans h.tape, k.output.trans h.output, Nat.le_trans h.size k.size, fun i hi hn => (k.block i (Nat.lt_of_lt_of_le hi h.size) (fun q => hn (hk i hi q))).trans (h.block i hi hn)⟩

theorem Turn.row {w w' : World} {bs : Nat → Prop} (h : Turn w w' bs) {base : Nat} {e : TypeId} {size : Nat} {v : Value} {n : Nat} {xs : List Value} (ho : w.ownsRow base e size v n xs) (hn : ∀ k, v.ownBlock = some k → ¬ bs k) : w'.ownsRow base e size v n xs := by
  refine ⟨ho.1, ?_⟩
  rcases ho.2 with h0 | ⟨g, cap, cur, rfl, hb, hg, r⟩
  · exact .inl h0
  · exact .inr ⟨g, cap, cur, rfl, hb, (h.block g (Array.getElem?_eq_some_iff.1 hg).1 (hn g rfl)).trans hg, r⟩

theorem Turn.map {w w' : World} {bs : Nat → Prop} (h : Turn w w' bs) {k : TypeId} {R : Value → Option (DataW Unit × List MemPlace)} {b n : Nat} {D : DataW Unit} (ho : w.ownsMap Yba.prog k R b n D) (hn : ¬ bs b) : w'.ownsMap Yba.prog k R b n D := by
  have hlt := ho.lt
  obtain ⟨es, clock, hb, r⟩ := ho
  exact ⟨es, clock, (h.block b hlt hn).trans hb, r⟩

theorem Turn.cell {w w' : World} {bs : Nat → Prop} (h : Turn w w' bs) {a : Addr} (ha : a.block < w.heap.size) (hn : ¬ bs a.block) : w'.cell? a = w.cell? a := World.cell?_of_block (h.block _ ha hn)
theorem Turn.frozen {w w' : World} {bs : Nat → Prop} (h : Turn w w' bs) {a : Addr} (ha : a.block < w.heap.size) (hn : ¬ bs a.block) : w'.frozen? a = w.frozen? a := World.frozen?_of_block (h.block _ ha hn)

theorem Turn.below {w0 w w' : World} {bs : Nat → Prop} {B : Nat} (hb : Below B w0 w) (h : Turn w w' bs) (hB : B ≤ w.heap.size) (hn : ∀ k, k < B → ¬ bs k) : Below B w0 w' :=
  hb.trans ⟨h.os, h.tape, h.output, h.size, fun k hk => h.block k (Nat.lt_of_lt_of_le hk hB) (hn k hk)⟩

/-- Block L is a ledger whose accounts are S: the map (nil at first), the names' row, the row of amounts, all nought. -/
structure Led (w : World) (L : Nat) (mo : Option Nat) (nv hv : Value) (S : List ByteArray) : Prop where
  c0 : w.cell? ⟨L, 0, none⟩ = some (.map mo)
  c1 : w.cell? ⟨L, 1, none⟩ = some nv
  c2 : w.cell? ⟨L, 2, none⟩ = some hv
  fz : ∀ j, w.frozen? ⟨L, j, none⟩ = false
  lt : L < w.heap.size
  names : w.ownsRow (L + 1) 9 1 nv S.length (S.map .string)
  held : w.ownsRow (L + 1) 33 4 hv S.length (List.replicate (S.length * 4) (.int .u64 0))
  map : (mo = none ∧ S = []) ∨ ∃ B D, mo = some B ∧ L < B ∧ w.ownsMap Yba.prog 9 (plainElem Yba.prog 3) B S.length D ∧ Desc D S

/-- The blocks that a ledger holds. -/
def ledBs (L : Nat) (mo : Option Nat) (nv hv : Value) (k : Nat) : Prop := k = L ∨ nv.ownBlock = some k ∨ hv.ownBlock = some k ∨ mo = some k

theorem Led.kept {w w' : World} {L : Nat} {mo : Option Nat} {nv hv : Value} {S : List ByteArray} (h : Led w L mo nv hv S) {bs : Nat → Prop} (t : Turn w w' bs) (hn : ∀ k, ledBs L mo nv hv k → ¬ bs k) : Led w' L mo nv hv S := by
  have hL := hn L (.inl rfl)
  refine ⟨(t.cell h.lt hL).trans h.c0, (t.cell h.lt hL).trans h.c1, (t.cell h.lt hL).trans h.c2, fun j => (t.frozen h.lt hL).trans (h.fz j), Nat.lt_of_lt_of_le h.lt t.size, t.row h.names (fun k e => hn k (.inr (.inl e))), t.row h.held (fun k e => hn k (.inr (.inr (.inl e)))), ?_⟩
  rcases h.map with h0 | ⟨B, D, e, hB, hm, hd⟩
  · exact .inl h0
  · exact .inr ⟨B, D, e, hB, t.map hm (hn B (.inr (.inr (.inr e)))), hd⟩

/-- Two rows of other element types lie in other blocks. -/
theorem row_apart {w : World} {b1 b2 : Nat} {e1 e2 : TypeId} {s1 s2 : Nat} {v1 v2 : Value} {n1 n2 : Nat} {x1 x2 : List Value} (h1 : w.ownsRow b1 e1 s1 v1 n1 x1) (h2 : w.ownsRow b2 e2 s2 v2 n2 x2) (hne : e1 ≠ e2) (k : Nat) (k1 : v1.ownBlock = some k) : v2.ownBlock ≠ some k := by
  intro k2
  rcases h1.2 with ⟨rfl, _⟩ | ⟨g, cap, cur, rfl, _, hg, _⟩
  · simp [Value.ownBlock] at k1
  rcases h2.2 with ⟨rfl, _⟩ | ⟨g2, cap2, cur2, rfl, _, hg2, _⟩
  · simp [Value.ownBlock] at k2
  simp [Value.ownBlock] at k1 k2
  subst k1
  subst k2
  rw [hg] at hg2
  simp at hg2
  exact hne hg2.2

/-- A row and a map lie in other blocks. -/
theorem row_map {w : World} {b1 : Nat} {e1 : TypeId} {s1 : Nat} {v1 : Value} {n1 : Nat} {x1 : List Value} (h1 : w.ownsRow b1 e1 s1 v1 n1 x1) {k : TypeId} {R : Value → Option (DataW Unit × List MemPlace)} {b n : Nat} {D : DataW Unit} (ho : w.ownsMap Yba.prog k R b n D) : v1.ownBlock ≠ some b := by
  intro k1
  obtain ⟨es, clock, hb, _⟩ := ho
  rcases h1.2 with ⟨rfl, _⟩ | ⟨g, cap, cur, rfl, _, hg, _⟩
  · simp [Value.ownBlock] at k1
  simp [Value.ownBlock] at k1
  subst k1
  rw [hg] at hb
  simp at hb

theorem row_ne {w : World} {base : Nat} {e : TypeId} {size : Nat} {v : Value} {n : Nat} {xs : List Value} (h : w.ownsRow base e size v n xs) {b : Nat} (hb : b < base) : v.ownBlock ≠ some b := fun e1 => by
  have := (h.lt b e1).1
  omega

theorem row_shape {w : World} {base : Nat} {e : TypeId} {size : Nat} {v : Value} {n : Nat} {xs : List Value} (h : w.ownsRow base e size v n xs) : ∃ ao cap, v = .slice ao n cap := by
  rcases h.2 with ⟨rfl, rfl⟩ | ⟨g, cap, _, rfl, _⟩
  · exact ⟨_, _, rfl⟩
  · exact ⟨_, _, rfl⟩

theorem cell_step {w w2 : World} {o : Obj} {row : Option Nat} {a : Addr} {v : Value} (h : w.cell? a = some v) (t : (w.alloc o).grownBy w2 row) (hne : row ≠ some a.block) : w2.cell? a = some v :=
  t.cell ((World.cell?_alloc_lt _ _ _ (World.block_lt_of_cell? w a h)).trans h) hne.symm
theorem frozen_step {w w2 : World} {row : Option Nat} {a : Addr} (h : w.frozen? a = false) (t : w.grownBy w2 row) (hlt : a.block < w.heap.size) (hne : row ≠ some a.block) : w2.frozen? a = false :=
  (World.frozen?_of_block (t.block _ hlt hne.symm)).trans h
theorem frozen_step' {w w2 : World} {o : Obj} {row : Option Nat} {a : Addr} (h : w.frozen? a = false) (t : (w.alloc o).grownBy w2 row) (hlt : a.block < w.heap.size) (hne : row ≠ some a.block) : w2.frozen? a = false :=
  frozen_step ((World.frozen?_alloc_old _ _ _ (by omega)).trans h) t (by simp; omega) hne
theorem str_oneCell (x : ByteArray) : ∀ u ∈ [Value.string x], u.oneCell' = true := by
  intro u hu
  simp at hu
  subst hu
  rfl
theorem four_oneCell : ∀ u ∈ [Value.int .u64 0, Value.int .u64 0, Value.int .u64 0, Value.int .u64 0], u.oneCell' = true := by
  intro u hu
  simp at hu
  subst hu
  rfl
theorem cell_four_new (w : World) (t : TypeId) (n : Nat) (hn : n = w.heap.size) : ∀ j u, [Value.int .u64 0, Value.int .u64 0, Value.int .u64 0, Value.int .u64 0][j]? = some u → (w.alloc (.cells #[Value.int .u64 0, Value.int .u64 0, Value.int .u64 0, Value.int .u64 0] t)).cell? ((⟨n, 0, none⟩ : Addr).add j) = some u := by
  subst hn
  intro j u hj
  have e : (⟨w.heap.size, 0, none⟩ : Addr).add j = ⟨w.heap.size, j, none⟩ := by
    cases j <;> simp [Addr.add]
  rw [e, World.cell?_alloc_new]
  simpa using hj

/-- append at the operation, the new slice's shape written out. -/
theorem append_at {P : Program} (w : World) {ops : Array Oper} {rest : List Oper} {o : Oper} {a : Act} {Q : Exit → Act → World → Prop} (hgd : o.guard = none) (s x : Operand) (t : TypeId)
    (ho : o.op = .call { callee := .builtin .append, args := #[s, x], argTypes := #[t, t] })
    (base : Nat) (e : TypeId) (i : TypeInfo) (z : Value) (size bytes : Nat) (ht : P.underlying t = some (.slice e)) (hi : P.info? e = some i) (hz : i.zero = some z)
    (hsize : i.size = size) (hby : i.bytes = bytes) (hzs : z.cells.size = size) (hsz : 0 < size)
    (v : Value) (n : Nat) (xs : List Value) (hs : a.eval s = v) (hown : w.ownsRow base e size v n xs)
    (ad : Addr) (c : Nat) (news : List Value) (hx : a.eval x = .slice (some ad) 1 c) (hl : news.length = 1 * size) (hnews : ∀ j u, news[j]? = some u → w.cell? (ad.add j) = some u) (h1 : ∀ u ∈ news, u.oneCell' = true)
    (h63 : n + 1 ≤ maxLen) (hbytes : (n + 1) * bytes ≤ 140737488355328) (hbase : base ≤ w.heap.size)
    (h : ∀ g cap w', w'.ownsRow base e size (.slice (some ⟨g, 0, none⟩) (n + 1) cap) (n + 1) (xs ++ news) → w.grownBy w' v.ownBlock → (v.ownBlock = some g ∨ g = w.heap.size) → wpList P ops Q rest (a.put o.dst (.slice (some ⟨g, 0, none⟩) (n + 1) cap)) w') :
    wpList P ops Q (o :: rest) a w := by
  refine wpList_append_own_at w hgd s x t ho base e i z size bytes ht hi hz hsize hby hzs hsz v n xs hs hown ad 1 c news hx hl hnews h1 h63 hbytes hbase ?_
  intro v' w' ho' hg _ hloc
  rcases ho'.2 with ⟨_, h0⟩ | ⟨g, cap, cur, rfl, _⟩
  · omega
  · refine h g cap w' ho' hg ?_
    rcases hloc with e1 | e1
    · exact .inl (by simpa [Value.ownBlock] using e1.symm)
    · exact .inr (by simpa [Value.ownBlock] using e1)

/-- WHAT account DOES TO THE LEDGER WHERE THE NAME IS NEW, behind the map's making. -/
theorem led_step {w w1 w2 w3 : World} {L B g2 c2 g3 c3 : Nat} {nv hv : Value} {S : List ByteArray} {D : DataW Unit} {x : ByteArray} {o1 o3 : Obj}
    (h : Led w L (some B) nv hv S) (hB : L < B) (hm : w.ownsMap Yba.prog 9 (plainElem Yba.prog 3) B S.length D) (hd : Desc D S) (hx : x ∉ S)
    (m1 : w1.ownsMap Yba.prog 9 (plainElem Yba.prog 3) B (S.length + 1) (D.put (nkey x) (.lit (.int .i64 (S.length : Int))))) (t1 : w.grownBy w1 (some B))
    (r2 : w2.ownsRow (L + 1) 9 1 (.slice (some ⟨g2, 0, none⟩) (S.length + 1) c2) (S.length + 1) (S.map .string ++ [.string x])) (t2 : (w1.alloc o1).grownBy w2 nv.ownBlock) (l2 : nv.ownBlock = some g2 ∨ g2 = (w1.alloc o1).heap.size)
    (r3 : w3.ownsRow (L + 1) 33 4 (.slice (some ⟨g3, 0, none⟩) (S.length + 1) c3) (S.length + 1) (List.replicate (S.length * 4) (.int .u64 0) ++ [.int .u64 0, .int .u64 0, .int .u64 0, .int .u64 0]))
    (t3 : ((w2.setCell ⟨L, 1, none⟩ (.slice (some ⟨g2, 0, none⟩) (S.length + 1) c2)).alloc o3).grownBy w3 hv.ownBlock) :
    Led (w3.setCell ⟨L, 2, none⟩ (.slice (some ⟨g3, 0, none⟩) (S.length + 1) c3)) L (some B) (.slice (some ⟨g2, 0, none⟩) (S.length + 1) c2) (.slice (some ⟨g3, 0, none⟩) (S.length + 1) c3) (S ++ [x]) ∧
    Turn w (w3.setCell ⟨L, 2, none⟩ (.slice (some ⟨g3, 0, none⟩) (S.length + 1) c3)) (ledBs L (some B) nv hv) ∧ (nv.ownBlock = some g2 ∨ w.heap.size ≤ g2) := by
  have nB := row_map h.names hm
  have hBv := row_map h.held hm
  have nL := row_ne h.names (Nat.lt_succ_self L)
  have hL := row_ne h.held (Nat.lt_succ_self L)
  have T1 : Turn w w1 (fun k => k = B) := Turn.grown t1 (fun k e => by simpa using e.symm)
  have T1' : Turn w (w1.alloc o1) (fun k => k = B) := T1.trans (Turn.alloc _ _ _)
  have T2 : Turn (w1.alloc o1) w2 (fun k => nv.ownBlock = some k) := Turn.grown t2 (fun k e => e)
  have T3a : Turn w2 ((w2.setCell ⟨L, 1, none⟩ (.slice (some ⟨g2, 0, none⟩) (S.length + 1) c2)).alloc o3) (fun k => k = L) := (Turn.setCell (bs := fun k => k = L) _ _ _ rfl).trans (Turn.alloc _ _ _)
  have T3b : Turn ((w2.setCell ⟨L, 1, none⟩ (.slice (some ⟨g2, 0, none⟩) (S.length + 1) c2)).alloc o3) w3 (fun k => hv.ownBlock = some k) := Turn.grown t3 (fun k e => e)
  have T4 : Turn w3 (w3.setCell ⟨L, 2, none⟩ (.slice (some ⟨g3, 0, none⟩) (S.length + 1) c3)) (fun k => k = L) := Turn.setCell _ _ _ rfl
  have s1 := T1'.size
  have s2 := T2.size
  have s3 := T3a.size
  have s3' := T3b.size
  have hLlt := h.lt
  have hLB : ¬ L = B := by omega
  have all : Turn w (w3.setCell ⟨L, 2, none⟩ (.slice (some ⟨g3, 0, none⟩) (S.length + 1) c3)) (ledBs L (some B) nv hv) :=
    (((((T1'.weaken (fun k _ e => .inr (.inr (.inr (by rw [e]))))).trans (T2.weaken (fun k _ e => .inr (.inl e)))).trans (T3a.weaken (fun k _ e => .inl e))).trans (T3b.weaken (fun k _ e => .inr (.inr (.inl e))))).trans (T4.weaken (fun k _ e => .inl e)))
  -- the three cells
  have k2 : ∀ j, w2.cell? ⟨L, j, none⟩ = w.cell? ⟨L, j, none⟩ := fun j => (T2.cell (a := ⟨L, j, none⟩) (Nat.lt_of_lt_of_le hLlt s1) nL).trans (T1'.cell (a := ⟨L, j, none⟩) hLlt hLB)
  have z2 : ∀ j, w2.frozen? ⟨L, j, none⟩ = w.frozen? ⟨L, j, none⟩ := fun j => (T2.frozen (a := ⟨L, j, none⟩) (Nat.lt_of_lt_of_le hLlt s1) nL).trans (T1'.frozen (a := ⟨L, j, none⟩) hLlt hLB)
  have k3 : ∀ j, w3.cell? ⟨L, j, none⟩ = (w2.setCell ⟨L, 1, none⟩ (.slice (some ⟨g2, 0, none⟩) (S.length + 1) c2)).cell? ⟨L, j, none⟩ := fun j =>
    (T3b.cell (a := ⟨L, j, none⟩) (by simp; show L < _; omega) hL).trans (World.cell?_alloc_lt _ _ _ (by simp; omega))
  have z3 : ∀ j, w3.frozen? ⟨L, j, none⟩ = false := fun j =>
    ((T3b.frozen (a := ⟨L, j, none⟩) (by simp; show L < _; omega) hL).trans (World.frozen?_alloc_old _ _ _ (by simp; omega))).trans ((World.frozen?_setCell _ _ _ _).trans ((z2 j).trans (h.fz j)))
  have c20 : w3.cell? ⟨L, 0, none⟩ = some (.map (some B)) := by rw [k3, World.cell?_setCell_other _ _ _ _ (by simp), k2, h.c0]
  have c21 : w3.cell? ⟨L, 1, none⟩ = some (.slice (some ⟨g2, 0, none⟩) (S.length + 1) c2) := by rw [k3]; exact World.cell?_setCell_same _ _ _ ((k2 1).trans h.c1)
  have c22 : w3.cell? ⟨L, 2, none⟩ = some hv := by rw [k3, World.cell?_setCell_other _ _ _ _ (by simp), k2, h.c2]
  have g2L : L + 1 ≤ g2 := (r2.lt g2 rfl).1
  -- the names' row is not the amounts' row in w2: their types part
  have hv2 : w2.ownsRow (L + 1) 33 4 hv S.length (List.replicate (S.length * 4) (.int .u64 0)) :=
    T2.row (T1'.row h.held (fun k e => by intro q; subst q; exact hBv e)) (fun k e => row_apart h.held h.names (by decide) k e)
  have ap := row_apart r2 hv2 (by decide) g2 rfl
  have r2' : w3.ownsRow (L + 1) 9 1 (.slice (some ⟨g2, 0, none⟩) (S.length + 1) c2) (S.length + 1) (S.map .string ++ [.string x]) :=
    T3b.row (T3a.row r2 (fun k e => by simp [Value.ownBlock] at e; omega)) (fun k e => by simp [Value.ownBlock] at e; subst e; exact ap)
  have m3 : w3.ownsMap Yba.prog 9 (plainElem Yba.prog 3) B (S.length + 1) (D.put (nkey x) (.lit (.int .i64 (S.length : Int)))) :=
    T3b.map (T3a.map (T2.map ((Turn.alloc _ _ (fun _ => False)).map m1 id) nB) (by omega)) hBv
  have eN : (S ++ [x]).length = S.length + 1 := by simp
  refine ⟨⟨?_, ?_, ?_, ?_, ?_, ?_, ?_, ?_⟩, all, ?_⟩
  · rw [World.cell?_setCell_other _ _ _ _ (by simp)]; exact c20
  · rw [World.cell?_setCell_other _ _ _ _ (by simp)]; exact c21
  · exact World.cell?_setCell_same _ _ _ c22
  · intro j; rw [World.frozen?_setCell]; exact z3 j
  · simp; omega
  · rw [eN, List.map_append]
    exact T4.row r2' (fun k e => by simp [Value.ownBlock] at e; omega)
  · rw [eN, show (S.length + 1) * 4 = S.length * 4 + 4 by omega, ← List.replicate_append_replicate]
    exact T4.row r3 (fun k e => by have := (r3.lt g3 rfl).1; simp [Value.ownBlock] at e; omega)
  · rw [eN]
    exact .inr ⟨B, _, rfl, hB, T4.map m3 (by omega), desc_put hd hx⟩
  · rcases l2 with e | e
    · exact .inl e
    · exact .inr (by omega)

/-- The ledger's world behind the map's making. -/
def madeW (w : World) (L : Nat) : World := (w.setCell ⟨L, 0, none⟩ (.map (some w.heap.size))).alloc (.map #[] 0)

/-- The map is made first, where there is none. -/
theorem led_made {w : World} {L : Nat} {nv hv : Value} (h : Led w L none nv hv []) :
    Led (madeW w L) L (some w.heap.size) nv hv [] ∧
    (madeW w L).ownsMap Yba.prog 9 (plainElem Yba.prog 3) w.heap.size 0 (.map [] : DataW Unit) ∧
    Turn w (madeW w L) (fun k => k = L) := by
  have hlt := h.lt
  have nL := row_ne h.names (Nat.lt_succ_self L)
  have hL := row_ne h.held (Nat.lt_succ_self L)
  have T : Turn w (w.setCell ⟨L, 0, none⟩ (.map (some w.heap.size))) (fun k => k = L) := Turn.setCell (bs := fun k => k = L) _ _ _ rfl
  have TT : Turn w (madeW w L) (fun k => k = L) := T.trans (Turn.alloc _ _ _)
  have m : (madeW w L).ownsMap Yba.prog 9 (plainElem Yba.prog 3) w.heap.size 0 (.map [] : DataW Unit) := by
    have := World.ownsMap_made (w.setCell ⟨L, 0, none⟩ (.map (some w.heap.size))) Yba.prog 9 (plainElem (H := Unit) Yba.prog 3)
    rw [World.size_setCell] at this
    exact this
  have ca : ∀ j, (madeW w L).cell? ⟨L, j, none⟩ = (w.setCell ⟨L, 0, none⟩ (.map (some w.heap.size))).cell? ⟨L, j, none⟩ := fun j => World.cell?_alloc_lt _ _ _ (by simp; omega)
  refine ⟨⟨?_, ?_, ?_, ?_, ?_, ?_, ?_, ?_⟩, m, TT⟩
  · rw [ca]; exact World.cell?_setCell_same _ _ _ h.c0
  · rw [ca, World.cell?_setCell_other _ _ _ _ (by simp), h.c1]
  · rw [ca, World.cell?_setCell_other _ _ _ _ (by simp), h.c2]
  · intro j; unfold madeW; rw [World.frozen?_alloc_old _ _ _ (by simp; omega), World.frozen?_setCell]; exact h.fz j
  · exact Nat.lt_of_lt_of_le hlt TT.size
  · exact TT.row h.names (fun k e q => by subst q; exact nL e)
  · exact TT.row h.held (fun k e q => by subst q; exact hL e)
  · exact .inr ⟨_, _, rfl, hlt, m, desc_nil⟩

end Go.Proofs.Ybulkajks
