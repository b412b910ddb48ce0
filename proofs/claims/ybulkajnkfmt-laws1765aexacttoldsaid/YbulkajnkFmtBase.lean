import Derived.Test.YbulkajnkFmtRows
import Derived.Maps.AppendAt
import Derived.WalkKit
import Derived.WalkSpells
import Derived.Laws.OwnMore
import Derived.Deep.Draws
namespace Go.Proofs.YbulkajnkFmt
open Go.RowKit

/-- w' is w but for new blocks and for the blocks of the set bs. -/
structure Turn (w w' : World) (bs : Nat → Prop) : Prop where
  os : w'.os = w.os
  tape : w'.tape = w.tape
  output : w'.output = w.output
  size : w.heap.size ≤ w'.heap.size
  block : ∀ k, k < w.heap.size → ¬ bs k → w'.heap[k]? = w.heap[k]?

theorem Turn.refl (w : World) (bs : Nat → Prop) : Turn w w bs := ⟨rfl, rfl, rfl, Nat.le_refl _, fun _ _ _ => rfl⟩
theorem Turn.trans {a b c : World} {bs : Nat → Prop} (h : Turn a b bs) (k : Turn b c bs) : Turn a c bs :=
  ⟨k.os.trans h.os, k.tape.trans h.tape, k.output.trans h.output, Nat.le_trans h.size k.size, fun i hi hn => (k.block i (Nat.lt_of_lt_of_le hi h.size) hn).trans (h.block i hi hn)⟩
theorem Turn.grown {w w' : World} {row : Option Nat} {bs : Nat → Prop} (h : w.grownBy w' row) (hr : ∀ k, row = some k → bs k) : Turn w w' bs :=
  ⟨h.os, h.tape, h.output, h.size, fun k hk hn => h.block k hk (fun e => hn (hr k e.symm))⟩
theorem Turn.alloc (w : World) (o : Obj) (bs : Nat → Prop) : Turn w (w.alloc o) bs := Turn.grown (World.grownBy_alloc w o none) (fun _ h => by cases h)
theorem Turn.setCell (w : World) (a : Addr) (u : Value) {bs : Nat → Prop} (h : bs a.block) : Turn w (w.setCell a u) bs :=
  ⟨rfl, rfl, rfl, by simp, fun k _ hn => Below.heap_setCell w a u k (fun e => hn (by rw [e]; exact h))⟩
theorem Turn.weaken {w w' : World} {bs bs' : Nat → Prop} (h : Turn w w' bs) (hb : ∀ k, k < w.heap.size → bs k → bs' k) : Turn w w' bs' :=
  ⟨h.os, h.tape, h.output, h.size, fun k hk hn => h.block k hk (fun b => hn (hb k hk b))⟩

theorem Turn.comp {a b c : World} {bs bs' : Nat → Prop} (h : Turn a b bs) (k : Turn b c bs') (hk : ∀ i, i < a.heap.size → bs' i → bs i) : Turn a c bs :=
  ⟨k.os.trans h.os, k.tape.trans h.tape, k.output.trans h.output, Nat.le_trans h.size k.size, fun i hi hn => (k.block i (Nat.lt_of_lt_of_le hi h.size) (fun q => hn (hk i hi q))).trans (h.block i hi hn)⟩

theorem Turn.row {w w' : World} {bs : Nat → Prop} (h : Turn w w' bs) {base : Nat} {e : TypeId} {size : Nat} {v : Value} {n : Nat} {xs : List Value} (ho : w.ownsRow base e size v n xs) (hn : ∀ k, v.ownBlock = some k → ¬ bs k) : w'.ownsRow base e size v n xs := by
  refine ⟨ho.1, ?_⟩
  rcases ho.2 with h0 | ⟨g, cap, cur, rfl, hb, hg, r⟩
  · exact .inl h0
  · exact .inr ⟨g, cap, cur, rfl, hb, (h.block g (Array.getElem?_eq_some_iff.1 hg).1 (hn g rfl)).trans hg, r⟩

theorem Turn.cell {w w' : World} {bs : Nat → Prop} (h : Turn w w' bs) {a : Addr} (ha : a.block < w.heap.size) (hn : ¬ bs a.block) : w'.cell? a = w.cell? a := World.cell?_of_block (h.block _ ha hn)
theorem Turn.frozen {w w' : World} {bs : Nat → Prop} (h : Turn w w' bs) {a : Addr} (ha : a.block < w.heap.size) (hn : ¬ bs a.block) : w'.frozen? a = w.frozen? a := World.frozen?_of_block (h.block _ ha hn)

theorem Turn.below {w0 w w' : World} {bs : Nat → Prop} {B : Nat} (hb : Below B w0 w) (h : Turn w w' bs) (hB : B ≤ w.heap.size) (hn : ∀ k, k < B → ¬ bs k) : Below B w0 w' :=
  hb.trans ⟨h.os, h.tape, h.output, h.size, fun k hk => h.block k (Nat.lt_of_lt_of_le hk hB) (hn k hk)⟩

theorem row_ne {w : World} {base : Nat} {e : TypeId} {size : Nat} {v : Value} {n : Nat} {xs : List Value} (h : w.ownsRow base e size v n xs) {b : Nat} (hb : b < base) : v.ownBlock ≠ some b := fun e1 => by
  have := (h.lt b e1).1
  omega

theorem row_shape {w : World} {base : Nat} {e : TypeId} {size : Nat} {v : Value} {n : Nat} {xs : List Value} (h : w.ownsRow base e size v n xs) : ∃ ao cap, v = .slice ao n cap := by
  rcases h.2 with ⟨rfl, rfl⟩ | ⟨g, cap, _, rfl, _⟩
  · exact ⟨_, _, rfl⟩
  · exact ⟨_, _, rfl⟩

theorem cell_step {w w2 : World} {o : Obj} {row : Option Nat} {a : Addr} {v : Value} (h : w.cell? a = some v) (t : (w.alloc o).grownBy w2 row) (hne : row ≠ some a.block) : w2.cell? a = some v :=
  t.cell ((World.cell?_alloc_lt _ _ _ (World.block_lt_of_cell? w a h)).trans h) hne.symm
theorem frozen_step {w w2 : World} {row : Option Nat} {a : Addr} (h : w.frozen? a = false) (t : w.grownBy w2 row) (hlt : a.block < w.heap.size) (hne : row ≠ some a.block) : w2.frozen? a = false :=
  (World.frozen?_of_block (t.block _ hlt hne.symm)).trans h
theorem frozen_step' {w w2 : World} {o : Obj} {row : Option Nat} {a : Addr} (h : w.frozen? a = false) (t : (w.alloc o).grownBy w2 row) (hlt : a.block < w.heap.size) (hne : row ≠ some a.block) : w2.frozen? a = false :=
  frozen_step ((World.frozen?_alloc_old _ _ _ (by omega)).trans h) t (by simp; omega) hne
/-- append at the operation, the new slice's shape written out. -/
theorem append_at {P : Program} (w : World) {ops : Array Oper} {rest : List Oper} {o : Oper} {a : Act} {Q : Exit → Act → World → Prop} (hgd : o.guard = none) (s x : Operand) (t : TypeId)
    (ho : o.op = .call { callee := .builtin .append, args := #[s, x], argTypes := #[t, t] })
    (base : Nat) (e : TypeId) (i : TypeInfo) (z : Value) (size bytes : Nat) (ht : P.underlying t = some (.slice e)) (hi : P.info? e = some i) (hz : i.zero = some z)
    (hsize : i.size = size) (hby : i.bytes = bytes) (hzs : z.cells.size = size) (hsz : 0 < size)
    (v : Value) (n : Nat) (xs : List Value) (hs : a.eval s = v) (hown : w.ownsRow base e size v n xs)
    (ad : Addr) (c : Nat) (news : List Value) (hx : a.eval x = .slice (some ad) 1 c) (hl : news.length = 1 * size) (hnews : ∀ j u, news[j]? = some u → w.cell? (ad.add j) = some u) (h1 : ∀ u ∈ news, u.oneCell' = true)
    (h63 : n + 1 ≤ maxLen) (hbytes : (n + 1) * bytes ≤ 140737488355328) (hbase : base ≤ w.heap.size)
    (h : ∀ g cap w', w'.ownsRow base e size (.slice (some ⟨g, 0, none⟩) (n + 1) cap) (n + 1) (xs ++ news) → w.grownBy w' v.ownBlock → (v.ownBlock = some g ∨ g = w.heap.size) → wpList P ops Q rest (a.put o.dst (.slice (some ⟨g, 0, none⟩) (n + 1) cap)) w') :
    wpList P ops Q (o :: rest) a w := by
  refine wpList_append_own_at w hgd s x t ho base e i z size bytes ht hi hz hsize hby hzs hsz v n xs hs hown ad 1 c news hx hl hnews h1 h63 hbytes hbase ?_
  intro v' w' ho' hg _ hloc
  rcases ho'.2 with ⟨_, h0⟩ | ⟨g, cap, cur, rfl, _⟩
  · omega
  · refine h g cap w' ho' hg ?_
    rcases hloc with e1 | e1
    · exact .inl (by simpa [Value.ownBlock] using e1.symm)
    · exact .inr (by simpa [Value.ownBlock] using e1)

theorem cell_step2 {w w2 : World} {o o' : Obj} {row : Option Nat} {a : Addr} {v : Value} (h : w.cell? a = some v) (t : ((w.alloc o).alloc o').grownBy w2 row) (hne : row ≠ some a.block) : w2.cell? a = some v :=
  cell_step ((World.cell?_alloc_lt _ _ _ (World.block_lt_of_cell? w a h)).trans h) t hne
theorem frozen_step2 {w w2 : World} {o o' : Obj} {row : Option Nat} {a : Addr} (h : w.frozen? a = false) (t : ((w.alloc o).alloc o').grownBy w2 row) (hlt : a.block < w.heap.size) (hne : row ≠ some a.block) : w2.frozen? a = false :=
  frozen_step' ((World.frozen?_alloc_old _ _ _ (by omega)).trans h) t (by simp; omega) hne
theorem cell_one_at (w : World) (x : Value) (t : TypeId) (n : Nat) (hn : n = w.heap.size) : ∀ j u, [x][j]? = some u → (w.alloc (.cells #[x] t)).cell? ((⟨n, 0, none⟩ : Addr).add j) = some u := by
  subst hn
  exact cell_one_new w x t

theorem Turn.drew {w w' : World} {bs : Nat → Prop} (h : Turn w w' bs) : Turn w w'.drew bs := ⟨h.os, h.tape, h.output, h.size, h.block⟩

theorem row_some {w : World} {base : Nat} {e : TypeId} {size : Nat} {ao : Option Addr} {n cap : Nat} {xs : List Value} (h : w.ownsRow base e size (.slice ao n cap) n xs) (hn : 0 < n) : ∃ g, ao = some ⟨g, 0, none⟩ := by
  rcases h.2 with ⟨_, h0⟩ | ⟨g, c, _, e1, _⟩
  · omega
  · simp at e1
    exact ⟨g, e1.1⟩

/-- A nil slice. -/
def nil0 : Value := .slice none 0 0

/-- A vector's seven cells: its type; the slice sv at the layout's own place, the others nil; which are null. -/
def va (t : Int) (l : Nat) (sv nl : Value) : Array Value :=
  match l with
  | 1 => #[.int .u8 t, sv, .slice none 0 0, .slice none 0 0, .slice none 0 0, .slice none 0 0, nl]
  | 2 => #[.int .u8 t, .slice none 0 0, sv, .slice none 0 0, .slice none 0 0, .slice none 0 0, nl]
  | 3 => #[.int .u8 t, .slice none 0 0, .slice none 0 0, sv, .slice none 0 0, .slice none 0 0, nl]
  | 4 => #[.int .u8 t, .slice none 0 0, .slice none 0 0, .slice none 0 0, sv, .slice none 0 0, nl]
  | _ => #[.int .u8 t, .slice none 0 0, .slice none 0 0, .slice none 0 0, .slice none 0 0, sv, nl]

/-- Block b is such a vector. -/
def IsVec (w : World) (b : Nat) (t : Int) (l : Nat) (sv nl : Value) : Prop := w.heap[b]? = some (.cells (va t l sv nl) 33 (0, 0))

section
variable {w : World} {b : Nat} {t : Int} {l : Nat} {sv nl : Value}
theorem IsVec.cell (h : IsVec w b t l sv nl) (j : Nat) : w.cell? ⟨b, j, none⟩ = (va t l sv nl)[j]? := by
  unfold IsVec at h
  simp [World.cell?, h]
theorem IsVec.fz (h : IsVec w b t l sv nl) (j : Nat) : w.frozen? ⟨b, j, none⟩ = false := by
  unfold IsVec at h
  simp [World.frozen?, h]
theorem IsVec.lt (h : IsVec w b t l sv nl) : b < w.heap.size := (Array.getElem?_eq_some_iff.1 h).1
theorem IsVec.kept {w' : World} {bs : Nat → Prop} (h : IsVec w b t l sv nl) (T : Turn w w' bs) (hn : ¬ bs b) : IsVec w' b t l sv nl := (T.block b h.lt hn).trans h
theorem IsVec.set (h : IsVec w b t l sv nl) {l' : Nat} {sv' nl' : Value} (j : Nat) (v : Value) (e : (va t l sv nl).setIfInBounds j v = va t l' sv' nl') : IsVec (w.setCell ⟨b, j, none⟩ v) b t l' sv' nl' := by
  have hlt := h.lt
  unfold IsVec at h ⊢
  have h' : w.heap[b] = .cells (va t l sv nl) 33 (0, 0) := by simpa [Array.getElem?_eq_getElem hlt] using h
  show (w.heap.modify b _)[b]? = _
  rw [Array.getElem?_eq_getElem (by simpa using hlt), Array.getElem_modify_self, h', ← e]
  rfl
end

/-- The listed table, as the walks read it: each type's layout. -/
structure Tab (w : World) : Prop where
  l1 : w.cell? ⟨1, 3, none⟩ = some (.int .u8 1)
  l2 : w.cell? ⟨1, 5, none⟩ = some (.int .u8 2)
  l3 : w.cell? ⟨1, 7, none⟩ = some (.int .u8 3)
  l4 : w.cell? ⟨1, 9, none⟩ = some (.int .u8 4)
  l5 : w.cell? ⟨1, 11, none⟩ = some (.int .u8 5)
  l6 : w.cell? ⟨1, 13, none⟩ = some (.int .u8 2)
  l7 : w.cell? ⟨1, 15, none⟩ = some (.int .u8 2)
  l8 : w.cell? ⟨1, 17, none⟩ = some (.int .u8 5)

theorem Tab.kept {w w' : World} {bs : Nat → Prop} (h : Tab w) (T : Turn w w' bs) (hn : ¬ bs 1) : Tab w' := by
  have hlt : 1 < w.heap.size := World.block_lt_of_cell? w _ h.l1
  have c : ∀ j, w'.cell? ⟨1, j, none⟩ = w.cell? ⟨1, j, none⟩ := fun j => T.cell (a := ⟨1, j, none⟩) hlt hn
  exact ⟨(c _).trans h.l1, (c _).trans h.l2, (c _).trans h.l3, (c _).trans h.l4, (c _).trans h.l5, (c _).trans h.l6, (c _).trans h.l7, (c _).trans h.l8⟩

/-- Type t has layout l. -/
def TL (t : Int) (l : Nat) : Prop := (t = 1 ∧ l = 1) ∨ (t = 2 ∧ l = 2) ∨ (t = 3 ∧ l = 3) ∨ (t = 4 ∧ l = 4) ∨ (t = 5 ∧ l = 5) ∨ (t = 6 ∧ l = 2) ∨ (t = 7 ∧ l = 2) ∨ (t = 8 ∧ l = 5)

set_option maxHeartbeats 800000 in
theorem layout_any (t : Int) (l : Nat) (h : TL t l) (w : World) (G : Tab w) : Calls Ybaf.prog 12 #[.int .u8 t] w fun e w' => e = .returned (.int .u8 l) ∧ w = w' := by
  obtain ⟨g1, g2, g3, g4, g5, g6, g7, g8⟩ := G
  rcases h with ⟨rfl, rfl⟩ | ⟨rfl, rfl⟩ | ⟨rfl, rfl⟩ | ⟨rfl, rfl⟩ | ⟨rfl, rfl⟩ | ⟨rfl, rfl⟩ | ⟨rfl, rfl⟩ | ⟨rfl, rfl⟩
  all_goals
    go_enter Ybaf.func12, Ybaf.ntmps12
    go_wp2
    go_ret
    exact ⟨rfl, rfl⟩

end Go.Proofs.YbulkajnkFmt
