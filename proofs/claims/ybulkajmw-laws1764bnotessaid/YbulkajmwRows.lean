/-
  No cell of these rows narrows 'for every input' (looked for: loops, veiled, ifaces, maps, wideKeys, modest, calm, conditions, laid).
  DERIVED. THE GIVEN ROWS OF THIS SEAT. 1 by the template 'for every input the law returns true; each argument reads behind the call as it read before'; 0 by the template 'total and deterministic' (their statements: YbulkajmwTotals.lean).
  GIVEN WITH THE SEED: the statements are not yours to turn. If you find one false, say at which input.
  Laid BY PROGRAM, IN A SANDBOX (cutbox-rows.mjs): the forced cells as the released guide's own fill.sh prints them over the translation d58b64db0ecd5024… (all of the seat's roots in one cut). By AI agents, Wed Nov 11 2026. No macro, syntax, notation, axiom, sorry.
-/
import Derived.Test.YbulkajmwChecked
import GoSem.Claim
import GoSem.ClaimJoined
import GoSem.ClaimMapViews
import Derived.JoinedTies
import Derived.KernelRfl
namespace Go.Proofs.Ybulkajmw
/- THE CELL 'sum', in the pinned program and in every row, IS THE sha256 OF THE DUMP (.gsa) THAT YbulkajmwProg.lean LOADS. Nothing in Lean hashes anything: it is a label: what it is worth is what the hold of that sum in a sandbox is worth. -/
noncomputable def Yba.pinned : Pinned := { name := "ybulkajmw", sum := "d58b64db0ecd50246a2633b458b99581aa70fc2356e9e9df7b9b6ea9edb0e216", checked := Yba.checked }
namespace Rows
def none {H : Type} : Left H := { results := [], args := [] }

/-- 'timestamp.LawS1764BNotes': WHATEVER THE INPUT: true; the input reads as it did. -/
def lawS1764BNotesSpec : ChangeSpec := { name := "lawS1764BNotes", fn := fun _ => fun
  | [d1, d2, d3, d4, d5] => { results := [.lit (.bool true)], args := [d1, d2, d3, d4, d5] }
  | _ => none }
def lawS1764BNotesRow : OpenClaim := { program := "ybulkajmw", sum := "d58b64db0ecd50246a2633b458b99581aa70fc2356e9e9df7b9b6ea9edb0e216", func := "example.com/turnstile/turnstile/internal/timestamp.LawS1764BNotes", spec := "lawS1764BNotes", apart := false }
def LawS1764BNotesSaid : Prop := lawS1764BNotesRow.holds Yba.pinned (OpenSpec.ofChange lawS1764BNotesSpec)

/-- ITS FALSE NEIGHBOUR: 'it returns false'. Refute it at one input. -/
def lawS1764BNotesWrong : ChangeSpec := { name := "lawS1764BNotes", fn := fun _ => fun
  | [d1, d2, d3, d4, d5] => { results := [.lit (.bool false)], args := [d1, d2, d3, d4, d5] }
  | _ => none }
def LawS1764BNotesWrongFalsely : Prop := lawS1764BNotesRow.holds Yba.pinned (OpenSpec.ofChange lawS1764BNotesWrong)

end Rows
end Go.Proofs.Ybulkajmw
