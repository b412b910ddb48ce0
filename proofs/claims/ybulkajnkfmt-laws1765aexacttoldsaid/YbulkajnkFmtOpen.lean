import Derived.Test.YbulkajnkFmtLaw
import Derived.Test.YbulkajnkFmtTie
import Derived.ProofKit
import Derived.OpenShut
import Derived.LaidMore
import Derived.Stop.Joined
namespace Go.Proofs.YbulkajnkFmt
open Go.ChangeShapes Go.WideShapes Go.ChangeAt Go.RowKit

/-- The listed variable's name, as the given specification has it. -/
def tname : String := Rows.lawS1765AExactSpec.vars.headD ""

theorem gT : Ybaf.prog.globalNamed tname = some 1 := by kernel_rfl
theorem tT : (Ybaf.prog.globals[1]?).map (·.type) = some 49 := by kernel_rfl

/-- What the row lists. -/
def laid1 : List (String × DataW Unit) := [(tname, Rows.laid_example_com_oxbow_oxbow_internal_model_types)]

theorem nth_of {l : List Value} {a : Nat} {v : Value} (h : (((l.drop a).take 2).drop 1).take 1 = [v]) : l[a + 1]? = some v := by
  have := congrArg (fun m : List Value => m[0]?) h
  simpa using this

/-- One entry of the table, opened. -/
theorem entry {H : Type} {enc : TypeId × Value → H} {W : World} {base : Nat} {spare : Nat → Bool} {held : Bool} {m : Nat} {l : List Value} {a : Nat} {x : DataW H × List MemPlace} {d : DataW H} {k : Int}
    (h : DataW.trod enc Ybaf.prog W base spare held m 48 ((l.drop a).take 2) = some x) (hx : x.1 = .agg [d, .lit (.int .u8 k)]) : l[a + 1]? = some (.int .u8 k) := by
  obtain ⟨y0, y1, n, e, _, _, h1⟩ := trod_struct2 Ybaf.underlying48 h
  have c44 : Ybaf.prog.cellsOf 44 = 1 := by kernel_rfl
  obtain ⟨q, e1, e2, _⟩ := DataW.trod_int Ybaf.underlying44 h1
  rw [e] at hx
  simp only [DataW.agg.injEq, List.cons.injEq] at hx
  have hk : q = k := by
    have := hx.2.1
    rw [e2] at this
    simpa using this
  subst hk
  exact nth_of (by rw [← e1]; rfl)

theorem tab_of_laid {W : World} (h : laidMetH Ybaf.prog laid1 W) : Tab W := by
  rw [MakeChecks.laidMetH_plain _ _ _ (by kernel_rfl)] at h
  obtain ⟨ps, ⟨g0, t0, cs0, f0, p0, q0, hg0, ht0, hv0, hd0, _, _⟩, _, _⟩ := h
  obtain rfl := Option.some.inj (gT.symm.trans hg0)
  obtain rfl := Option.some.inj (tT.symm.trans ht0)
  obtain ⟨xs, m1, rfl, hx1, hlen, hn9, hel⟩ := DataW.trod_array Ybaf.underlying49 hd0
  have c48 : Ybaf.prog.cellsOf 48 = 2 := by kernel_rfl
  rw [c48] at hel
  have hc := World.var?_cell hg0 hv0
  simp only [Prod.mk.injEq] at hx1
  have hx2 := hx1.1
  unfold Rows.laid_example_com_oxbow_oxbow_internal_model_types at hx2
  simp only [DataW.agg.injEq] at hx2
  match xs, hn9, hx2, hel with
  | [x0, x1, x2, x3, x4, x5, x6, x7, x8], _, hx2, hel =>
    simp only [List.map_cons, List.map_nil, List.cons.injEq] at hx2
    obtain ⟨_, e1, e2, e3, e4, e5, e6, e7, e8, _⟩ := hx2
    have g : ∀ (j : Nat) (v : Value), cs0.toList[j]? = some v → W.cell? ⟨1, j, none⟩ = some v := fun j v hv => by
      rw [hc j]
      simpa using hv
    exact ⟨g 3 _ (entry (hel 1 (by decide)) e1.symm), g 5 _ (entry (hel 2 (by decide)) e2.symm), g 7 _ (entry (hel 3 (by decide)) e3.symm), g 9 _ (entry (hel 4 (by decide)) e4.symm),
      g 11 _ (entry (hel 5 (by decide)) e5.symm), g 13 _ (entry (hel 6 (by decide)) e6.symm), g 15 _ (entry (hel 7 (by decide)) e7.symm), g 17 _ (entry (hel 8 (by decide)) e8.symm)⟩

/-- The door's own heap meets the condition. -/
theorem door_met (os : Os) (args : Array Value) : laidMetH Ybaf.prog laid1 ((World.doorLaid Ybaf.prog 22 os).forCall (fun _ _ => 0) ⟨#[], args, []⟩).memory :=
  laidMetH_of_parts3 (fuel := 8) (laidMet_of_run' 8 (by kernel_rfl) (by kernel_rfl)) (by kernel_rfl) (by kernel_rfl)

end Go.Proofs.YbulkajnkFmt
