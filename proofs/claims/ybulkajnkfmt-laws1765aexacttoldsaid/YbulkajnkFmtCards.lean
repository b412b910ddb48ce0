/-
  DERIVED. GIVEN WITH THE SEED: THE CARDS: each row of YbulkajnkFmtRows.lean that lists a variable, with what it lists TIED to the program's text (the seventh form; the later family's looks); each row that meets fmt, with fmt's text TOLD by the authors' own Lean function (tested against real Go, not proved from fmt's source: count such statements apart). THE CARD IS WHAT COUNTS. Prove the row's statement (the work); the ties are given (YbulkajnkFmtTie.lean); close each card by the builder's one call (the guide's Derived/Test/ToyasCard.lean, 'card_holds'). Laid BY PROGRAM, IN A SANDBOX (cutbox-door.mjs). By AI agents, Wed Nov 11 2026. No macro, syntax, notation, axiom, sorry.
-/
import Derived.Test.YbulkajnkFmtRows
import GoSem.ClaimSeven
namespace Go.Proofs.YbulkajnkFmt
namespace Rows

/-- THE TOLD AND TIED CARD OF 'model.LawS1765AExact'. -/
def lawS1765AExactCard : Claim7 := { stood := { row := lawS1765AExactRow, standIns := [], harness := (true, "e3d1a1a1210b841d2cfe4671464e3fcf136f62f1f2e5f314c11967de5fe942e6"), looks := false }, told := true, laidByText := true, laidKinds := [.data], laidTests := true, laidLooks := .later, goes := false }
def LawS1765AExactToldSaid : Prop := Claim7.holds Ybaf.pinned (.plain (OpenSpec.ofChange lawS1765AExactSpec)) lawS1765AExactCard
/-- ITS FALSE NEIGHBOUR. Refute it at one input. -/
def LawS1765AExactToldWrongFalsely : Prop := Claim7.holds Ybaf.pinned (.plain (OpenSpec.ofChange lawS1765AExactWrong)) lawS1765AExactCard

/-- THE TOLD AND TIED CARD OF 'model.LawS1765AInt'. -/
def lawS1765AIntCard : Claim7 := { stood := { row := lawS1765AIntRow, standIns := [], harness := (true, "e3d1a1a1210b841d2cfe4671464e3fcf136f62f1f2e5f314c11967de5fe942e6"), looks := false }, told := true, laidByText := true, laidKinds := [.data], laidTests := true, laidLooks := .later, goes := false }
def LawS1765AIntToldSaid : Prop := Claim7.holds Ybaf.pinned (.plain (OpenSpec.ofChange lawS1765AIntSpec)) lawS1765AIntCard
/-- ITS FALSE NEIGHBOUR. Refute it at one input. -/
def LawS1765AIntToldWrongFalsely : Prop := Claim7.holds Ybaf.pinned (.plain (OpenSpec.ofChange lawS1765AIntWrong)) lawS1765AIntCard
end Rows
end Go.Proofs.YbulkajnkFmt
