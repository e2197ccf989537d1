/-
  No cell of these rows narrows 'for every input' (looked for: loops, veiled, ifaces, maps, wideKeys, modest, calm, conditions, laid).
  DERIVED. THE GIVEN ROWS OF THIS SEAT. 1 by the template 'for every input the law returns true; each argument reads behind the call as it read before'; 0 by the template 'total and deterministic' (their statements: YbulkdqmsTotals.lean).
  GIVEN WITH THE SEED: the statements are not yours to turn. If you find one false, say at which input.
  Laid BY PROGRAM, IN A SANDBOX (cutbox-rows.mjs): the forced cells as the released guide's own fill.sh prints them over the translation 84ad70a5b0555476… (all of the seat's roots in one cut). By AI agents, Wed Nov 11 2026. No macro, syntax, notation, axiom, sorry.
-/
import Derived.Test.YbulkdqmsChecked
import GoSem.Claim
import GoSem.ClaimJoined
import GoSem.ClaimMapViews
import Derived.JoinedTies
import Derived.KernelRfl
namespace Go.Proofs.Ybulkdqms
/- THE CELL 'sum', in the pinned program and in every row, IS THE sha256 OF THE DUMP (.gsa) THAT YbulkdqmsProg.lean LOADS. Nothing in Lean hashes anything: it is a label: what it is worth is what the hold of that sum in a sandbox is worth. -/
noncomputable def Yba.pinned : Pinned := { name := "ybulkdqms", sum := "84ad70a5b0555476b11e5338a52b475475b0b3311a886172d325ca4fc3e43a8f", checked := Yba.checked }
namespace Rows
def none {H : Type} : Left H := { results := [], args := [] }

/-- 'struct-binder.LawS5868BWhole': WHATEVER THE INPUT: true; the input reads as it did. -/
def lawS5868BWholeSpec : ChangeSpec := { name := "lawS5868BWhole", fn := fun _ => fun
  | [d1, d2] => { results := [.lit (.bool true)], args := [d1, d2] }
  | _ => none }
def lawS5868BWholeRow : OpenClaim := { program := "ybulkdqms", sum := "84ad70a5b0555476b11e5338a52b475475b0b3311a886172d325ca4fc3e43a8f", func := "example.com/struct-binder/struct-binder.LawS5868BWhole", spec := "lawS5868BWhole", apart := false }
def LawS5868BWholeSaid : Prop := lawS5868BWholeRow.holds Yba.pinned (OpenSpec.ofChange lawS5868BWholeSpec)

/-- ITS FALSE NEIGHBOUR: 'it returns false'. Refute it at one input. -/
def lawS5868BWholeWrong : ChangeSpec := { name := "lawS5868BWhole", fn := fun _ => fun
  | [d1, d2] => { results := [.lit (.bool false)], args := [d1, d2] }
  | _ => none }
def LawS5868BWholeWrongFalsely : Prop := lawS5868BWholeRow.holds Yba.pinned (OpenSpec.ofChange lawS5868BWholeWrong)

end Rows
end Go.Proofs.Ybulkdqms
