/-
  No cell of these rows narrows 'for every input' (looked for: loops, veiled, ifaces, maps, wideKeys, modest, calm, conditions, laid).
  DERIVED. THE GIVEN ROWS OF THIS SEAT. 3 by the template 'for every input the law returns true; each argument reads behind the call as it read before'; 0 by the template 'total and deterministic' (their statements: YbulkajmiTotals.lean).
  GIVEN WITH THE SEED: the statements are not yours to turn. If you find one false, say at which input.
  Laid BY PROGRAM, IN A SANDBOX (cutbox-rows.mjs): the forced cells as the released guide's own fill.sh prints them over the translation 605f4b2e265bc1e6… (all of the seat's roots in one cut). By AI agents, Wed Nov 11 2026. No macro, syntax, notation, axiom, sorry.
-/
import Derived.Test.YbulkajmiChecked
import GoSem.Claim
import GoSem.ClaimJoined
import GoSem.ClaimMapViews
import Derived.JoinedTies
import Derived.KernelRfl
namespace Go.Proofs.Ybulkajmi
/- THE CELL 'sum', in the pinned program and in every row, IS THE sha256 OF THE DUMP (.gsa) THAT YbulkajmiProg.lean LOADS. Nothing in Lean hashes anything: it is a label: what it is worth is what the hold of that sum in a sandbox is worth. -/
noncomputable def Yba.pinned : Pinned := { name := "ybulkajmi", sum := "605f4b2e265bc1e62dacefe79251a089919aaf9adfcb0608bda13a5b1a9bdb8a", checked := Yba.checked }
namespace Rows
def none {H : Type} : Left H := { results := [], args := [] }

/-- 'monthwise.LawS1763BNext': WHATEVER THE INPUT: true; the input reads as it did. -/
def lawS1763BNextSpec : ChangeSpec := { name := "lawS1763BNext", fn := fun _ => fun
  | [d1, d2] => { results := [.lit (.bool true)], args := [d1, d2] }
  | _ => none }
def lawS1763BNextRow : OpenClaim := { program := "ybulkajmi", sum := "605f4b2e265bc1e62dacefe79251a089919aaf9adfcb0608bda13a5b1a9bdb8a", func := "example.com/monthwise/monthwise.LawS1763BNext", spec := "lawS1763BNext", apart := false }
def LawS1763BNextSaid : Prop := lawS1763BNextRow.holds Yba.pinned (OpenSpec.ofChange lawS1763BNextSpec)

/-- ITS FALSE NEIGHBOUR: 'it returns false'. Refute it at one input. -/
def lawS1763BNextWrong : ChangeSpec := { name := "lawS1763BNext", fn := fun _ => fun
  | [d1, d2] => { results := [.lit (.bool false)], args := [d1, d2] }
  | _ => none }
def LawS1763BNextWrongFalsely : Prop := lawS1763BNextRow.holds Yba.pinned (OpenSpec.ofChange lawS1763BNextWrong)

/-- 'monthwise.LawS1763BCycle': WHATEVER THE INPUT: true; the input reads as it did. -/
def lawS1763BCycleSpec : ChangeSpec := { name := "lawS1763BCycle", fn := fun _ => fun
  | [d1, d2] => { results := [.lit (.bool true)], args := [d1, d2] }
  | _ => none }
def lawS1763BCycleRow : OpenClaim := { program := "ybulkajmi", sum := "605f4b2e265bc1e62dacefe79251a089919aaf9adfcb0608bda13a5b1a9bdb8a", func := "example.com/monthwise/monthwise.LawS1763BCycle", spec := "lawS1763BCycle", apart := false }
def LawS1763BCycleSaid : Prop := lawS1763BCycleRow.holds Yba.pinned (OpenSpec.ofChange lawS1763BCycleSpec)

/-- ITS FALSE NEIGHBOUR: 'it returns false'. Refute it at one input. -/
def lawS1763BCycleWrong : ChangeSpec := { name := "lawS1763BCycle", fn := fun _ => fun
  | [d1, d2] => { results := [.lit (.bool false)], args := [d1, d2] }
  | _ => none }
def LawS1763BCycleWrongFalsely : Prop := lawS1763BCycleRow.holds Yba.pinned (OpenSpec.ofChange lawS1763BCycleWrong)

/-- 'monthwise.LawS1763BStart': WHATEVER THE INPUT: true; the input reads as it did. -/
def lawS1763BStartSpec : ChangeSpec := { name := "lawS1763BStart", fn := fun _ => fun
  | [d] => { results := [.lit (.bool true)], args := [d] }
  | _ => none }
def lawS1763BStartRow : OpenClaim := { program := "ybulkajmi", sum := "605f4b2e265bc1e62dacefe79251a089919aaf9adfcb0608bda13a5b1a9bdb8a", func := "example.com/monthwise/monthwise.LawS1763BStart", spec := "lawS1763BStart", apart := false }
def LawS1763BStartSaid : Prop := lawS1763BStartRow.holds Yba.pinned (OpenSpec.ofChange lawS1763BStartSpec)

/-- ITS FALSE NEIGHBOUR: 'it returns false'. Refute it at one input. -/
def lawS1763BStartWrong : ChangeSpec := { name := "lawS1763BStart", fn := fun _ => fun
  | [d] => { results := [.lit (.bool false)], args := [d] }
  | _ => none }
def LawS1763BStartWrongFalsely : Prop := lawS1763BStartRow.holds Yba.pinned (OpenSpec.ofChange lawS1763BStartWrong)

end Rows
end Go.Proofs.Ybulkajmi
