import Derived.Test.YbulkajmwRows
import Derived.Maps.AppendAt
import Derived.WalkKit
import Derived.LaidEqlPtr
import Derived.Laws.OwnMore
namespace Go.Proofs.Ybulkajmw
open Go.RowKit

/-- w' is w but for new blocks and for the blocks of the set bs. -/
structure Turn (w w' : World) (bs : Nat → Prop) : Prop where
  os : w'.os = w.os
  tape : w'.tape = w.tape
  output : w'.output = w.output
  size : w.heap.size ≤ w'.heap.size
  block : ∀ k, k < w.heap.size → ¬ bs k → w'.heap[k]? = w.heap[k]?

theorem Turn.refl (w : World) (bs : Nat → Prop) : Turn w w bs := ⟨rfl, rfl, rfl, Nat.le_refl _, fun _ _ _ => rfl⟩
theorem Turn.trans {a b c : World} {bs : Nat → Prop} (h : Turn a b bs) (k : Turn b c bs) : Turn a c bs :=
  ⟨k.os.trans h.os, k.tape.trans h.tape, k.output.trans h.output, Nat.le_trans h.size k.size, fun i hi hn => (k.block i (Nat.lt_of_lt_of_le hi h.size) hn).trans (h.block i hi hn)⟩
theorem Turn.grown {w w' : World} {row : Option Nat} {bs : Nat → Prop} (h : w.grownBy w' row) (hr : ∀ k, row = some k → bs k) : Turn w w' bs :=
  ⟨h.os, h.tape, h.output, h.size, fun k hk hn => h.block k hk (fun e => hn (hr k e.symm))⟩
theorem Turn.alloc (w : World) (o : Obj) (bs : Nat → Prop) : Turn w (w.alloc o) bs := Turn.grown (World.grownBy_alloc w o none) (fun _ h => by cases h)
theorem Turn.setCell (w : World) (a : Addr) (u : Value) {bs : Nat → Prop} (h : bs a.block) : Turn w (w.setCell a u) bs :=
  ⟨rfl, rfl, rfl, by simp, fun k _ hn => Below.heap_setCell w a u k (fun e => hn (by rw [e]; exact h))⟩
theorem Turn.weaken {w w' : World} {bs bs' : Nat → Prop} (h : Turn w w' bs) (hb : ∀ k, k < w.heap.size → bs k → bs' k) : Turn w w' bs' :=
  ⟨h.os, h.tape, h.output, h.size, fun k hk hn => h.block k hk (fun b => hn (hb k hk b))⟩

theorem Turn.comp {a b c : World} {bs bs' : Nat → Prop} (h : Turn a b bs) (k : Turn b c bs') (hk : ∀ i, i < a.heap.size → bs' i → bs i) : Turn a c bs :=
  ⟨k.os.trans h.os, k.tape.trans h.tape, k.output.trans h.output, Nat.le_trans h.size k.size, fun i hi hn => (k.block i (Nat.lt_of_lt_of_le hi h.size) (fun q => hn (hk i hi q))).trans (h.block i hi hn)⟩

theorem Turn.row {w w' : World} {bs : Nat → Prop} (h : Turn w w' bs) {base : Nat} {e : TypeId} {size : Nat} {v : Value} {n : Nat} {xs : List Value} (ho : w.ownsRow base e size v n xs) (hn : ∀ k, v.ownBlock = some k → ¬ bs k) : w'.ownsRow base e size v n xs := by
  refine ⟨ho.1, ?_⟩
  rcases ho.2 with h0 | ⟨g, cap, cur, rfl, hb, hg, r⟩
  · exact .inl h0
  · exact .inr ⟨g, cap, cur, rfl, hb, (h.block g (Array.getElem?_eq_some_iff.1 hg).1 (hn g rfl)).trans hg, r⟩

theorem Turn.cell {w w' : World} {bs : Nat → Prop} (h : Turn w w' bs) {a : Addr} (ha : a.block < w.heap.size) (hn : ¬ bs a.block) : w'.cell? a = w.cell? a := World.cell?_of_block (h.block _ ha hn)
theorem Turn.frozen {w w' : World} {bs : Nat → Prop} (h : Turn w w' bs) {a : Addr} (ha : a.block < w.heap.size) (hn : ¬ bs a.block) : w'.frozen? a = w.frozen? a := World.frozen?_of_block (h.block _ ha hn)

theorem Turn.below {w0 w w' : World} {bs : Nat → Prop} {B : Nat} (hb : Below B w0 w) (h : Turn w w' bs) (hB : B ≤ w.heap.size) (hn : ∀ k, k < B → ¬ bs k) : Below B w0 w' :=
  hb.trans ⟨h.os, h.tape, h.output, h.size, fun k hk => h.block k (Nat.lt_of_lt_of_le hk hB) (hn k hk)⟩

theorem row_ne {w : World} {base : Nat} {e : TypeId} {size : Nat} {v : Value} {n : Nat} {xs : List Value} (h : w.ownsRow base e size v n xs) {b : Nat} (hb : b < base) : v.ownBlock ≠ some b := fun e1 => by
  have := (h.lt b e1).1
  omega

theorem row_shape {w : World} {base : Nat} {e : TypeId} {size : Nat} {v : Value} {n : Nat} {xs : List Value} (h : w.ownsRow base e size v n xs) : ∃ ao cap, v = .slice ao n cap := by
  rcases h.2 with ⟨rfl, rfl⟩ | ⟨g, cap, _, rfl, _⟩
  · exact ⟨_, _, rfl⟩
  · exact ⟨_, _, rfl⟩

theorem cell_step {w w2 : World} {o : Obj} {row : Option Nat} {a : Addr} {v : Value} (h : w.cell? a = some v) (t : (w.alloc o).grownBy w2 row) (hne : row ≠ some a.block) : w2.cell? a = some v :=
  t.cell ((World.cell?_alloc_lt _ _ _ (World.block_lt_of_cell? w a h)).trans h) hne.symm
theorem frozen_step {w w2 : World} {row : Option Nat} {a : Addr} (h : w.frozen? a = false) (t : w.grownBy w2 row) (hlt : a.block < w.heap.size) (hne : row ≠ some a.block) : w2.frozen? a = false :=
  (World.frozen?_of_block (t.block _ hlt hne.symm)).trans h
theorem frozen_step' {w w2 : World} {o : Obj} {row : Option Nat} {a : Addr} (h : w.frozen? a = false) (t : (w.alloc o).grownBy w2 row) (hlt : a.block < w.heap.size) (hne : row ≠ some a.block) : w2.frozen? a = false :=
  frozen_step ((World.frozen?_alloc_old _ _ _ (by omega)).trans h) t (by simp; omega) hne
/-- append at the operation, the new slice's shape written out. -/
theorem append_at {P : Program} (w : World) {ops : Array Oper} {rest : List Oper} {o : Oper} {a : Act} {Q : Exit → Act → World → Prop} (hgd : o.guard = none) (s x : Operand) (t : TypeId)
    (ho : o.op = .call { callee := .builtin .append, args := #[s, x], argTypes := #[t, t] })
    (base : Nat) (e : TypeId) (i : TypeInfo) (z : Value) (size bytes : Nat) (ht : P.underlying t = some (.slice e)) (hi : P.info? e = some i) (hz : i.zero = some z)
    (hsize : i.size = size) (hby : i.bytes = bytes) (hzs : z.cells.size = size) (hsz : 0 < size)
    (v : Value) (n : Nat) (xs : List Value) (hs : a.eval s = v) (hown : w.ownsRow base e size v n xs)
    (ad : Addr) (c : Nat) (news : List Value) (hx : a.eval x = .slice (some ad) 1 c) (hl : news.length = 1 * size) (hnews : ∀ j u, news[j]? = some u → w.cell? (ad.add j) = some u) (h1 : ∀ u ∈ news, u.oneCell' = true)
    (h63 : n + 1 ≤ maxLen) (hbytes : (n + 1) * bytes ≤ 140737488355328) (hbase : base ≤ w.heap.size)
    (h : ∀ g cap w', w'.ownsRow base e size (.slice (some ⟨g, 0, none⟩) (n + 1) cap) (n + 1) (xs ++ news) → w.grownBy w' v.ownBlock → (v.ownBlock = some g ∨ g = w.heap.size) → wpList P ops Q rest (a.put o.dst (.slice (some ⟨g, 0, none⟩) (n + 1) cap)) w') :
    wpList P ops Q (o :: rest) a w := by
  refine wpList_append_own_at w hgd s x t ho base e i z size bytes ht hi hz hsize hby hzs hsz v n xs hs hown ad 1 c news hx hl hnews h1 h63 hbytes hbase ?_
  intro v' w' ho' hg _ hloc
  rcases ho'.2 with ⟨_, h0⟩ | ⟨g, cap, cur, rfl, _⟩
  · omega
  · refine h g cap w' ho' hg ?_
    rcases hloc with e1 | e1
    · exact .inl (by simpa [Value.ownBlock] using e1.symm)
    · exact .inr (by simpa [Value.ownBlock] using e1)

/-- A transaction's cells: its time, whether it has ended, how often it reads, who reads it. -/
def tx (ts : Int) (en : Bool) (rf : Int) (rv : Value) : Array Value :=
  #[.int .u64 ts, .nilIface, .bool en, .slice none 0 0, .pointer none, .pointer none, .pointer none, .pointer none, .int .i64 rf, rv, .slice none 0 0, .bool false, .int .u64 0]

/-- Block b is such a transaction. -/
def IsTx (w : World) (b : Nat) (ts : Int) (en : Bool) (rf : Int) (rv : Value) : Prop := w.heap[b]? = some (.cells (tx ts en rf rv) 29 (0, 0))

theorem IsTx.c2 {w : World} {b : Nat} {ts : Int} {en : Bool} {rf : Int} {rv : Value} (h : IsTx w b ts en rf rv) : w.cell? ⟨b, 2, none⟩ = some (.bool en) := by
  unfold IsTx at h
  simp [World.cell?, h, tx]
theorem IsTx.c8 {w : World} {b : Nat} {ts : Int} {en : Bool} {rf : Int} {rv : Value} (h : IsTx w b ts en rf rv) : w.cell? ⟨b, 8, none⟩ = some (.int .i64 rf) := by
  unfold IsTx at h
  simp [World.cell?, h, tx]
theorem IsTx.c9 {w : World} {b : Nat} {ts : Int} {en : Bool} {rf : Int} {rv : Value} (h : IsTx w b ts en rf rv) : w.cell? ⟨b, 9, none⟩ = some rv := by
  unfold IsTx at h
  simp [World.cell?, h, tx]
theorem IsTx.fz {w : World} {b : Nat} {ts : Int} {en : Bool} {rf : Int} {rv : Value} (h : IsTx w b ts en rf rv) (j : Nat) : w.frozen? ⟨b, j, none⟩ = false := by
  unfold IsTx at h
  simp [World.frozen?, h]
theorem IsTx.lt {w : World} {b : Nat} {ts : Int} {en : Bool} {rf : Int} {rv : Value} (h : IsTx w b ts en rf rv) : b < w.heap.size := (Array.getElem?_eq_some_iff.1 h).1
theorem IsTx.set9 {w : World} {b : Nat} {ts : Int} {en : Bool} {rf : Int} {rv : Value} (h : IsTx w b ts en rf rv) (rv' : Value) : IsTx (w.setCell ⟨b, 9, none⟩ rv') b ts en rf rv' := by
  have hlt := h.lt
  unfold IsTx at h ⊢
  have h' : w.heap[b] = .cells (tx ts en rf rv) 29 (0, 0) := by simpa [Array.getElem?_eq_getElem hlt] using h
  show (w.heap.modify b _)[b]? = _
  rw [Array.getElem?_eq_getElem (by simpa using hlt), Array.getElem_modify_self, h']
  rfl
theorem IsTx.set8 {w : World} {b : Nat} {ts : Int} {en : Bool} {rf : Int} {rv : Value} (h : IsTx w b ts en rf rv) (rf' : Int) : IsTx (w.setCell ⟨b, 8, none⟩ (.int .i64 rf')) b ts en rf' rv := by
  have hlt := h.lt
  unfold IsTx at h ⊢
  have h' : w.heap[b] = .cells (tx ts en rf rv) 29 (0, 0) := by simpa [Array.getElem?_eq_getElem hlt] using h
  show (w.heap.modify b _)[b]? = _
  rw [Array.getElem?_eq_getElem (by simpa using hlt), Array.getElem_modify_self, h']
  rfl
theorem IsTx.kept {w w' : World} {bs : Nat → Prop} {b : Nat} {ts : Int} {en : Bool} {rf : Int} {rv : Value} (h : IsTx w b ts en rf rv) (t : Turn w w' bs) (hn : ¬ bs b) : IsTx w' b ts en rf rv := (t.block b h.lt hn).trans h

/-- A pointer to the head of block b. -/
def pv (b : Nat) : Value := .pointer (some ⟨b, 0, none⟩)

theorem Yba.info22 : (Yba.prog.info? 22).map (fun i => (i.zero, i.size, i.bytes)) = some (some (.pointer none), 1, 8) := by kernel_rfl
theorem Yba.size29 : (Yba.prog.info? 29).map (fun i => i.size) = some 13 := by kernel_rfl

theorem pv_oneCell (b : Nat) : ∀ u ∈ [Value.pointer (some ⟨b, 0, none⟩)], u.oneCell' = true := by
  intro u hu
  simp at hu
  subst hu
  rfl

theorem cell_one_at (w : World) (x : Value) (t : TypeId) (n : Nat) (hn : n = w.heap.size) : ∀ j u, [x][j]? = some u → (w.alloc (.cells #[x] t)).cell? ((⟨n, 0, none⟩ : Addr).add j) = some u := by
  subst hn
  exact cell_one_new w x t

theorem eql_same (w : World) (a : Addr) : (binOp .eql 22 (.pointer (some a)) (.pointer (some a))).run Yba.prog w = .ok (.bool true) w := by
  obtain ⟨j, hj, _⟩ := Option.map_eq_some_iff.1 Yba.size29
  exact run_eql_ptr_same w a Yba.underlying22 hj
theorem neq_same (w : World) (a : Addr) : (binOp .neq 22 (.pointer (some a)) (.pointer (some a))).run Yba.prog w = .ok (.bool false) w := by
  obtain ⟨j, hj, _⟩ := Option.map_eq_some_iff.1 Yba.size29
  have h : ∀ d : Nat, (Op.equalIn (d + 1) 22 (.pointer (some a)) (.pointer (some a))).run Yba.prog w = .ok true w := fun d => by
    simp [Op.equalIn, run_underlying Yba.underlying22, sizeOf, typeInfo, hj, run_sameAddr_same]
  simp only [binOp]
  simp [Op.equal, Op.maxDepth, h 9999]
theorem eql_other {w : World} {a b : Nat} {ts ts' : Int} {en en' : Bool} {rf rf' : Int} {rv rv' : Value} (hne : a ≠ b) (ha : IsTx w a ts en rf rv) (hb : IsTx w b ts' en' rf' rv') :
    (binOp .eql 22 (.pointer (some ⟨a, 0, none⟩)) (.pointer (some ⟨b, 0, none⟩))).run Yba.prog w = .ok (.bool false) w := by
  obtain ⟨j, hj, hs⟩ := Option.map_eq_some_iff.1 Yba.size29
  exact run_eql_ptr_other w Yba.underlying22 hj (by rw [hs]; decide) (fun e => hne (by cases e; rfl)) ha hb

end Go.Proofs.Ybulkajmw
