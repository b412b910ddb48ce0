/-
  NARROWER THAN 'FOR EVERY INPUT', by the rows' own cells (each row's printed sentence says how): LawS1765AExact: laid · LawS1765AInt: laid.
  DERIVED. THE GIVEN ROWS OF THIS SEAT. 2 by the template 'for every input the law returns true; each argument reads behind the call as it read before'; 0 by the template 'total and deterministic' (their statements: YbulkajnkFmtTotals.lean).
  GIVEN WITH THE SEED: the statements are not yours to turn. If you find one false, say at which input.
  Laid BY PROGRAM, IN A SANDBOX (cutbox-rows.mjs): the forced cells as the released guide's own fill.sh prints them over the translation da42d3df504dc312… (all of the seat's roots in one cut). By AI agents, Wed Nov 11 2026. No macro, syntax, notation, axiom, sorry.
-/
import Derived.Test.YbulkajnkFmtChecked
import GoSem.Claim
import GoSem.ClaimJoined
import GoSem.ClaimMapViews
import Derived.JoinedTies
import Derived.KernelRfl
namespace Go.Proofs.YbulkajnkFmt
/- THE CELL 'sum', in the pinned program and in every row, IS THE sha256 OF THE DUMP (.gsa) THAT YbulkajnkFmtProg.lean LOADS. Nothing in Lean hashes anything: it is a label: what it is worth is what the hold of that sum in a sandbox is worth. -/
noncomputable def Ybaf.pinned : Pinned := { name := "ybulkajnkfmt", sum := "da42d3df504dc3127e6db9552cb420b5207a89c8bbec1d75eed37920355672bf", checked := Ybaf.checked }
namespace Rows
def none {H : Type} : Left H := { results := [], args := [] }

/- WHAT THE LISTED PACKAGE-LEVEL VARIABLES READ AS WHEN THE CALL BEGINS. Each datum BY PROGRAM (the guide's laid-datum.mjs) off the statement by which the dump's own 'gosem.cut.vars' lays the variable. In a bare row this is a premise. The card (YbulkajnkFmtCards.lean) ties it to the program's text. -/
def laid_example_com_oxbow_oxbow_internal_model_types {H : Type} : DataW H := .agg [.agg [.lit (.string []), .lit (.int .u8 0)], .agg [.lit (.string [98, 111, 111, 108]), .lit (.int .u8 1)], .agg [.lit (.string [105, 110, 116]), .lit (.int .u8 2)], .agg [.lit (.string [117, 105, 110, 116]), .lit (.int .u8 3)], .agg [.lit (.string [102, 108, 111, 97, 116]), .lit (.int .u8 4)], .agg [.lit (.string [115, 116, 114, 105, 110, 103]), .lit (.int .u8 5)], .agg [.lit (.string [116, 105, 109, 101]), .lit (.int .u8 2)], .agg [.lit (.string [100, 117, 114, 97, 116, 105, 111, 110]), .lit (.int .u8 2)], .agg [.lit (.string [98, 121, 116, 101, 115]), .lit (.int .u8 5)]]

/-- 'model.LawS1765AExact': WHATEVER THE INPUT: true; the input reads as it did. -/
def lawS1765AExactSpec : ChangeSpec := { name := "lawS1765AExact", vars := ["example.com/oxbow/oxbow/internal/model.types"], fn := fun _ => fun
  | [d1, d2, d3, d4, d5, g1] => { results := [.lit (.bool true)], args := [d1, d2, d3, d4, d5], vars := [g1] }
  | _ => none }
def lawS1765AExactRow : OpenClaim := { program := "ybulkajnkfmt", sum := "da42d3df504dc3127e6db9552cb420b5207a89c8bbec1d75eed37920355672bf", func := "example.com/oxbow/oxbow/internal/model.LawS1765AExact", spec := "lawS1765AExact", stops := ["fmt.Sprintf"], inPlace := ["fmt.Sprintf", "math.Float64frombits", "math.Float64bits"], named := ["example.com/oxbow/oxbow/internal/model.types"], apart := false, laid := [("example.com/oxbow/oxbow/internal/model.types", laid_example_com_oxbow_oxbow_internal_model_types)] }
/-- NO THEOREM (fmt's text is open here; it may be false): for the released tool's asking of the row's closed facts alone. THE STATEMENT IS 'LawS1765AExactToldSaid' (YbulkajnkFmtCards.lean). -/
def LawS1765AExactFormAsk : Prop := lawS1765AExactRow.holds Ybaf.pinned (OpenSpec.ofChange lawS1765AExactSpec)

/-- ITS FALSE NEIGHBOUR: 'it returns false'. Refute it at one input. -/
def lawS1765AExactWrong : ChangeSpec := { name := "lawS1765AExact", vars := ["example.com/oxbow/oxbow/internal/model.types"], fn := fun _ => fun
  | [d1, d2, d3, d4, d5, g1] => { results := [.lit (.bool false)], args := [d1, d2, d3, d4, d5], vars := [g1] }
  | _ => none }
def LawS1765AExactWrongFormAsk : Prop := lawS1765AExactRow.holds Ybaf.pinned (OpenSpec.ofChange lawS1765AExactWrong)

/-- 'model.LawS1765AInt': WHATEVER THE INPUT: true; the input reads as it did. -/
def lawS1765AIntSpec : ChangeSpec := { name := "lawS1765AInt", vars := ["example.com/oxbow/oxbow/internal/model.types"], fn := fun _ => fun
  | [d1, d2, g1] => { results := [.lit (.bool true)], args := [d1, d2], vars := [g1] }
  | _ => none }
def lawS1765AIntRow : OpenClaim := { program := "ybulkajnkfmt", sum := "da42d3df504dc3127e6db9552cb420b5207a89c8bbec1d75eed37920355672bf", func := "example.com/oxbow/oxbow/internal/model.LawS1765AInt", spec := "lawS1765AInt", stops := ["fmt.Sprintf"], inPlace := ["fmt.Sprintf", "math.Float64frombits"], named := ["example.com/oxbow/oxbow/internal/model.types"], apart := false, laid := [("example.com/oxbow/oxbow/internal/model.types", laid_example_com_oxbow_oxbow_internal_model_types)] }
/-- NO THEOREM (fmt's text is open here; it may be false): for the released tool's asking of the row's closed facts alone. THE STATEMENT IS 'LawS1765AIntToldSaid' (YbulkajnkFmtCards.lean). -/
def LawS1765AIntFormAsk : Prop := lawS1765AIntRow.holds Ybaf.pinned (OpenSpec.ofChange lawS1765AIntSpec)

/-- ITS FALSE NEIGHBOUR: 'it returns false'. Refute it at one input. -/
def lawS1765AIntWrong : ChangeSpec := { name := "lawS1765AInt", vars := ["example.com/oxbow/oxbow/internal/model.types"], fn := fun _ => fun
  | [d1, d2, g1] => { results := [.lit (.bool false)], args := [d1, d2], vars := [g1] }
  | _ => none }
def LawS1765AIntWrongFormAsk : Prop := lawS1765AIntRow.holds Ybaf.pinned (OpenSpec.ofChange lawS1765AIntWrong)

end Rows
end Go.Proofs.YbulkajnkFmt
