/-
  No cell of these rows narrows 'for every input' (looked for: loops, veiled, ifaces, maps, wideKeys, modest, calm, conditions, laid).
  DERIVED. THE GIVEN ROWS OF THIS SEAT. 1 by the template 'for every input the law returns true; each argument reads behind the call as it read before'; 0 by the template 'total and deterministic' (their statements: YbulkajksTotals.lean).
  GIVEN WITH THE SEED: the statements are not yours to turn. If you find one false, say at which input.
  Laid BY PROGRAM, IN A SANDBOX (cutbox-rows.mjs): the forced cells as the released guide's own fill.sh prints them over the translation 2cbb3bf404a51f60… (all of the seat's roots in one cut). By AI agents, Wed Nov 11 2026. No macro, syntax, notation, axiom, sorry.
-/
import Derived.Test.YbulkajksChecked
import GoSem.Claim
import GoSem.ClaimJoined
import GoSem.ClaimMapViews
import Derived.JoinedTies
import Derived.KernelRfl
namespace Go.Proofs.Ybulkajks
/- THE CELL 'sum', in the pinned program and in every row, IS THE sha256 OF THE DUMP (.gsa) THAT YbulkajksProg.lean LOADS. Nothing in Lean hashes anything: it is a label: what it is worth is what the hold of that sum in a sandbox is worth. -/
noncomputable def Yba.pinned : Pinned := { name := "ybulkajks", sum := "2cbb3bf404a51f602c57a2a224227fcd9cc61dd9219291902c3182adaab5cf80", checked := Yba.checked }
namespace Rows
def none {H : Type} : Left H := { results := [], args := [] }

/-- 'accrual.LawS1760BFirstSeen': WHATEVER THE INPUT: true; the input reads as it did. -/
def lawS1760BFirstSeenSpec : ChangeSpec := { name := "lawS1760BFirstSeen", fn := fun _ => fun
  | [d] => { results := [.lit (.bool true)], args := [d] }
  | _ => none }
def lawS1760BFirstSeenRow : OpenClaim := { program := "ybulkajks", sum := "2cbb3bf404a51f602c57a2a224227fcd9cc61dd9219291902c3182adaab5cf80", func := "example.com/accrual/accrual.LawS1760BFirstSeen", spec := "lawS1760BFirstSeen", apart := false }
def LawS1760BFirstSeenSaid : Prop := lawS1760BFirstSeenRow.holds Yba.pinned (OpenSpec.ofChange lawS1760BFirstSeenSpec)

/-- ITS FALSE NEIGHBOUR: 'it returns false'. Refute it at one input. -/
def lawS1760BFirstSeenWrong : ChangeSpec := { name := "lawS1760BFirstSeen", fn := fun _ => fun
  | [d] => { results := [.lit (.bool false)], args := [d] }
  | _ => none }
def LawS1760BFirstSeenWrongFalsely : Prop := lawS1760BFirstSeenRow.holds Yba.pinned (OpenSpec.ofChange lawS1760BFirstSeenWrong)

end Rows
end Go.Proofs.Ybulkajks
