/-
  No cell of these rows narrows 'for every input' (looked for: loops, veiled, ifaces, maps, wideKeys, modest, calm, conditions, laid).
  DERIVED. THE GIVEN ROWS OF THIS SEAT. 3 by the template 'for every input the law returns true; each argument reads behind the call as it read before'; 0 by the template 'total and deterministic' (their statements: YbulkajnkTotals.lean).
  GIVEN WITH THE SEED: the statements are not yours to turn. If you find one false, say at which input.
  Laid BY PROGRAM, IN A SANDBOX (cutbox-rows.mjs): the forced cells as the released guide's own fill.sh prints them over the translation 7774c46f41a4515e… (all of the seat's roots in one cut). By AI agents, Wed Nov 11 2026. No macro, syntax, notation, axiom, sorry.
-/
import Derived.Test.YbulkajnkChecked
import GoSem.Claim
import GoSem.ClaimJoined
import GoSem.ClaimMapViews
import Derived.JoinedTies
import Derived.KernelRfl
namespace Go.Proofs.Ybulkajnk
/- THE CELL 'sum', in the pinned program and in every row, IS THE sha256 OF THE DUMP (.gsa) THAT YbulkajnkProg.lean LOADS. Nothing in Lean hashes anything: it is a label: what it is worth is what the hold of that sum in a sandbox is worth. -/
noncomputable def Yba.pinned : Pinned := { name := "ybulkajnk", sum := "7774c46f41a4515ed386a2ce7968ec1ea46dd13bb12b3db836d7196a55a54f1e", checked := Yba.checked }
namespace Rows
def none {H : Type} : Left H := { results := [], args := [] }

/-- 'annotatedcsv.LawS1765BTable': WHATEVER THE INPUT: true; the input reads as it did. -/
def lawS1765BTableSpec : ChangeSpec := { name := "lawS1765BTable", fn := fun _ => fun
  | [d1, d2] => { results := [.lit (.bool true)], args := [d1, d2] }
  | _ => none }
def lawS1765BTableRow : OpenClaim := { program := "ybulkajnk", sum := "7774c46f41a4515ed386a2ce7968ec1ea46dd13bb12b3db836d7196a55a54f1e", func := "example.com/oxbow/oxbow/internal/annotatedcsv.LawS1765BTable", spec := "lawS1765BTable", apart := false }
def LawS1765BTableSaid : Prop := lawS1765BTableRow.holds Yba.pinned (OpenSpec.ofChange lawS1765BTableSpec)

/-- ITS FALSE NEIGHBOUR: 'it returns false'. Refute it at one input. -/
def lawS1765BTableWrong : ChangeSpec := { name := "lawS1765BTable", fn := fun _ => fun
  | [d1, d2] => { results := [.lit (.bool false)], args := [d1, d2] }
  | _ => none }
def LawS1765BTableWrongFalsely : Prop := lawS1765BTableRow.holds Yba.pinned (OpenSpec.ofChange lawS1765BTableWrong)

/-- 'annotatedcsv.LawS1765BMonthOfYear': WHATEVER THE INPUT: true; the input reads as it did. -/
def lawS1765BMonthOfYearSpec : ChangeSpec := { name := "lawS1765BMonthOfYear", fn := fun _ => fun
  | [d1, d2] => { results := [.lit (.bool true)], args := [d1, d2] }
  | _ => none }
def lawS1765BMonthOfYearRow : OpenClaim := { program := "ybulkajnk", sum := "7774c46f41a4515ed386a2ce7968ec1ea46dd13bb12b3db836d7196a55a54f1e", func := "example.com/oxbow/oxbow/internal/annotatedcsv.LawS1765BMonthOfYear", spec := "lawS1765BMonthOfYear", apart := false }
def LawS1765BMonthOfYearSaid : Prop := lawS1765BMonthOfYearRow.holds Yba.pinned (OpenSpec.ofChange lawS1765BMonthOfYearSpec)

/-- ITS FALSE NEIGHBOUR: 'it returns false'. Refute it at one input. -/
def lawS1765BMonthOfYearWrong : ChangeSpec := { name := "lawS1765BMonthOfYear", fn := fun _ => fun
  | [d1, d2] => { results := [.lit (.bool false)], args := [d1, d2] }
  | _ => none }
def LawS1765BMonthOfYearWrongFalsely : Prop := lawS1765BMonthOfYearRow.holds Yba.pinned (OpenSpec.ofChange lawS1765BMonthOfYearWrong)

/-- 'annotatedcsv.LawS1765BYearTotal': WHATEVER THE INPUT: true; the input reads as it did. -/
def lawS1765BYearTotalSpec : ChangeSpec := { name := "lawS1765BYearTotal", fn := fun _ => fun
  | [d] => { results := [.lit (.bool true)], args := [d] }
  | _ => none }
def lawS1765BYearTotalRow : OpenClaim := { program := "ybulkajnk", sum := "7774c46f41a4515ed386a2ce7968ec1ea46dd13bb12b3db836d7196a55a54f1e", func := "example.com/oxbow/oxbow/internal/annotatedcsv.LawS1765BYearTotal", spec := "lawS1765BYearTotal", apart := false }
def LawS1765BYearTotalSaid : Prop := lawS1765BYearTotalRow.holds Yba.pinned (OpenSpec.ofChange lawS1765BYearTotalSpec)

/-- ITS FALSE NEIGHBOUR: 'it returns false'. Refute it at one input. -/
def lawS1765BYearTotalWrong : ChangeSpec := { name := "lawS1765BYearTotal", fn := fun _ => fun
  | [d] => { results := [.lit (.bool false)], args := [d] }
  | _ => none }
def LawS1765BYearTotalWrongFalsely : Prop := lawS1765BYearTotalRow.holds Yba.pinned (OpenSpec.ofChange lawS1765BYearTotalWrong)

end Rows
end Go.Proofs.Ybulkajnk
