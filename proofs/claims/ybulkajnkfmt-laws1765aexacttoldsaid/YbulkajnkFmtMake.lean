import Derived.Test.YbulkajnkFmtAppend
namespace Go.Proofs.YbulkajnkFmt
open Go.RowKit

theorem zeroCells_one (z : Value) (n : Nat) : (Builtin.zeroCells #[z] n).toList = List.replicate n z := by
  unfold Builtin.zeroCells
  apply List.ext_getElem
  · simp
  · intro i h1 h2
    simp [Nat.mod_one]

/-- 'append(s, make([]T, n)...)' at a nil slice: a new row of n zero values. -/
theorem run_append_make {P : Program} (w : World) (t ti ty e : TypeId) (i : TypeInfo) (z : Value) (ht : P.underlying t = some (.slice e)) (hti : P.underlying ti = some (.int .i64)) (hi : P.info? e = some i) (hz : i.zero = some z) (hs : i.size = 1) (hc : z.cells = #[z])
    (n : Nat) (h0 : 0 < n) (hn : n ≤ 100000) (hb : i.bytes ≤ 1000) :
    (Builtin.append_ #[t, ti] ty #[.slice none 0 0, .int .i64 n]).run P w =
      .ok (.slice (some ⟨w.heap.size, 0, none⟩) n (grownCap w n 0 e)) (w.drew.alloc (.cells (Builtin.zeroCells #[z] n ++ Builtin.zeroCells #[z] (grownCap w n 0 e - n)) e)) := by
  have hn0 : n ≠ 0 := by omega
  have hm : n * i.bytes ≤ 100000 * 1000 := Nat.mul_le_mul hn hb
  have hm' : ¬ (281474976710656 < (n : Int) * (i.bytes : Int)) := by
    have : ((n * i.bytes : Nat) : Int) ≤ 100000000 := by omega
    rw [Int.natCast_mul] at this
    omega
  have h63' : ¬ (9223372036854775807 < (n : Int)) := by omega
  have hneg : ¬ ((n : Int) < 0) := by omega
  have hwr : IntKind.i64.wrap (n : Int) = n := by rw [IntKind.wrap_i64]; omega
  have h48' : ¬ (281474976710656 < Builtin.nextslicecap n 0 * i.bytes) := by rw [nextslicecap_zero h0]; omega
  simp [Builtin.append_, run_underlying ht, run_underlying hti, sizeOf, typeInfo, zeroValue, hi, hz, hs, hc, hn0, h63', h48', hwr, hneg, hm', Question.forced, run_firstCells_none, newRow, grownCap, asInt, asIntOf]

theorem append_make {P : Program} (w : World) {ops : Array Oper} {rest : List Oper} {o : Oper} {a : Act} {Q : Exit → Act → World → Prop} (hgd : o.guard = none) (s x : Operand) (t ti : TypeId)
    (ho : o.op = .call { callee := .builtin .append, args := #[s, x], argTypes := #[t, ti] })
    (base : Nat) (e : TypeId) (i : TypeInfo) (z : Value) (ht : P.underlying t = some (.slice e)) (hti : P.underlying ti = some (.int .i64)) (hi : P.info? e = some i) (hz : i.zero = some z) (hs : i.size = 1) (hc : z.cells = #[z])
    (n : Nat) (hsv : a.eval s = .slice none 0 0) (hx : a.eval x = .int .i64 n) (h0 : 0 < n) (hn : n ≤ 100000) (hb : i.bytes ≤ 1000) (hbase : base ≤ w.heap.size)
    (h : ∀ g cap w', w'.ownsRow base e 1 (.slice (some ⟨g, 0, none⟩) n cap) n (List.replicate n z) → w.grownBy w' none → g = w.heap.size → wpList P ops Q rest (a.put o.dst (.slice (some ⟨g, 0, none⟩) n cap)) w') :
    wpList P ops Q (o :: rest) a w := by
  refine wpList_plain hgd fun K hK => ?_
  have hr := run_append_make (P := P) w t ti o.type e i z ht hti hi hz hs hc n h0 hn hb
  have hge := grownCap_ge w n 0 e
  have hcm : grownCap w n 0 e ≤ maxLen := grownCap_le_maxLen w n 0 e (by unfold maxLen; omega)
  unfold Oper.wp execOp
  simp only [ho, resolve, invoke, builtin, Sem.run_bind, Sem.run_pure, Result.andThen_ok, List.map_toArray, List.map_cons, List.map_nil, hsv, hx, hr]
  refine hK _ _ (h _ _ _ ⟨by simp, .inr ⟨w.heap.size, _, _, rfl, hbase, heap_alloc_new w.drew _, hge, hcm, ?_, ?_⟩⟩ (grow_drew (World.grownBy_alloc w.drew _ none)) rfl)
  · have l1 : (Builtin.zeroCells #[z] n).size = n := by simp [Builtin.zeroCells]
    have l2 : (Builtin.zeroCells #[z] (grownCap w n 0 e - n)).size = grownCap w n 0 e - n := by simp [Builtin.zeroCells]
    simp only [Array.size_append, l1, l2]
    omega
  · rw [Array.toList_append, zeroCells_one, Nat.mul_one, List.take_left' (by simp)]

set_option maxHeartbeats 800000 in
theorem len_1 (V : Nat) (t : Int) (n sc : Nat) (so : Option Addr) (nl : Value) (w : World) (ht : TL t 1) (G : Tab w) (hV : IsVec w V t 1 (.slice so n sc) nl) :
    Calls Ybaf.prog 9 #[.pointer (some ⟨V, 0, none⟩)] w fun e w' => e = .returned (.int .i64 n) ∧ w = w' := by
  have c0 : w.cell? ⟨V, 0, none⟩ = some (.int .u8 t) := hV.cell 0
  have c1 : w.cell? ⟨V, 1, none⟩ = some (.slice so n sc) := hV.cell 1
  clear hV
  go_enter Ybaf.func9, Ybaf.ntmps9
  go_wp2_with (go_at_call 12; refine (layout_any t 1 ht _ G).mono ?_; rintro e w' ⟨rfl, rfl⟩)
  go_ret
  exact ⟨rfl, rfl⟩

set_option maxHeartbeats 800000 in
theorem len_2 (V : Nat) (t : Int) (n sc : Nat) (so : Option Addr) (nl : Value) (w : World) (ht : TL t 2) (G : Tab w) (hV : IsVec w V t 2 (.slice so n sc) nl) :
    Calls Ybaf.prog 9 #[.pointer (some ⟨V, 0, none⟩)] w fun e w' => e = .returned (.int .i64 n) ∧ w = w' := by
  have c0 : w.cell? ⟨V, 0, none⟩ = some (.int .u8 t) := hV.cell 0
  have c1 : w.cell? ⟨V, 2, none⟩ = some (.slice so n sc) := hV.cell 2
  clear hV
  go_enter Ybaf.func9, Ybaf.ntmps9
  go_wp2_with (go_at_call 12; refine (layout_any t 2 ht _ G).mono ?_; rintro e w' ⟨rfl, rfl⟩)
  go_ret
  exact ⟨rfl, rfl⟩

set_option maxHeartbeats 800000 in
theorem len_3 (V : Nat) (t : Int) (n sc : Nat) (so : Option Addr) (nl : Value) (w : World) (ht : TL t 3) (G : Tab w) (hV : IsVec w V t 3 (.slice so n sc) nl) :
    Calls Ybaf.prog 9 #[.pointer (some ⟨V, 0, none⟩)] w fun e w' => e = .returned (.int .i64 n) ∧ w = w' := by
  have c0 : w.cell? ⟨V, 0, none⟩ = some (.int .u8 t) := hV.cell 0
  have c1 : w.cell? ⟨V, 3, none⟩ = some (.slice so n sc) := hV.cell 3
  clear hV
  go_enter Ybaf.func9, Ybaf.ntmps9
  go_wp2_with (go_at_call 12; refine (layout_any t 3 ht _ G).mono ?_; rintro e w' ⟨rfl, rfl⟩)
  go_ret
  exact ⟨rfl, rfl⟩

set_option maxHeartbeats 800000 in
theorem len_4 (V : Nat) (t : Int) (n sc : Nat) (so : Option Addr) (nl : Value) (w : World) (ht : TL t 4) (G : Tab w) (hV : IsVec w V t 4 (.slice so n sc) nl) :
    Calls Ybaf.prog 9 #[.pointer (some ⟨V, 0, none⟩)] w fun e w' => e = .returned (.int .i64 n) ∧ w = w' := by
  have c0 : w.cell? ⟨V, 0, none⟩ = some (.int .u8 t) := hV.cell 0
  have c1 : w.cell? ⟨V, 4, none⟩ = some (.slice so n sc) := hV.cell 4
  clear hV
  go_enter Ybaf.func9, Ybaf.ntmps9
  go_wp2_with (go_at_call 12; refine (layout_any t 4 ht _ G).mono ?_; rintro e w' ⟨rfl, rfl⟩)
  go_ret
  exact ⟨rfl, rfl⟩

set_option maxHeartbeats 800000 in
theorem len_5 (V : Nat) (t : Int) (n sc : Nat) (so : Option Addr) (nl : Value) (w : World) (ht : TL t 5) (G : Tab w) (hV : IsVec w V t 5 (.slice so n sc) nl) :
    Calls Ybaf.prog 9 #[.pointer (some ⟨V, 0, none⟩)] w fun e w' => e = .returned (.int .i64 n) ∧ w = w' := by
  have c0 : w.cell? ⟨V, 0, none⟩ = some (.int .u8 t) := hV.cell 0
  have c1 : w.cell? ⟨V, 5, none⟩ = some (.slice so n sc) := hV.cell 5
  clear hV
  go_enter Ybaf.func9, Ybaf.ntmps9
  go_wp2_with (go_at_call 12; refine (layout_any t 5 ht _ G).mono ?_; rintro e w' ⟨rfl, rfl⟩)
  go_ret
  exact ⟨rfl, rfl⟩

theorem TL.five {t : Int} {l : Nat} (h : TL t l) : l = 1 ∨ l = 2 ∨ l = 3 ∨ l = 4 ∨ l = 5 := by unfold TL at h; omega

theorem len_any (V : Nat) (t : Int) (l n sc : Nat) (so : Option Addr) (nl : Value) (w : World) (ht : TL t l) (G : Tab w) (hV : IsVec w V t l (.slice so n sc) nl) :
    Calls Ybaf.prog 9 #[.pointer (some ⟨V, 0, none⟩)] w fun e w' => e = .returned (.int .i64 n) ∧ w = w' := by
  rcases ht.five with rfl | rfl | rfl | rfl | rfl
  · exact len_1 V t n sc so nl w ht G hV
  · exact len_2 V t n sc so nl w ht G hV
  · exact len_3 V t n sc so nl w ht G hV
  · exact len_4 V t n sc so nl w ht G hV
  · exact len_5 V t n sc so nl w ht G hV

end Go.Proofs.YbulkajnkFmt
