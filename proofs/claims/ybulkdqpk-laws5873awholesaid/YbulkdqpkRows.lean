/-
  No cell of these rows narrows 'for every input' (looked for: loops, veiled, ifaces, maps, wideKeys, modest, calm, conditions, laid).
  DERIVED. THE GIVEN ROWS OF THIS SEAT. 1 by the template 'for every input the law returns true; each argument reads behind the call as it read before'; 0 by the template 'total and deterministic' (their statements: YbulkdqpkTotals.lean).
  GIVEN WITH THE SEED: the statements are not yours to turn. If you find one false, say at which input.
  Laid BY PROGRAM, IN A SANDBOX (cutbox-rows.mjs): the forced cells as the released guide's own fill.sh prints them over the translation 074aca0907fb1db0… (all of the seat's roots in one cut). By AI agents, Wed Nov 11 2026. No macro, syntax, notation, axiom, sorry.
-/
import Derived.Test.YbulkdqpkChecked
import GoSem.Claim
import GoSem.ClaimJoined
import GoSem.ClaimMapViews
import Derived.JoinedTies
import Derived.KernelRfl
namespace Go.Proofs.Ybulkdqpk
/- THE CELL 'sum', in the pinned program and in every row, IS THE sha256 OF THE DUMP (.gsa) THAT YbulkdqpkProg.lean LOADS. Nothing in Lean hashes anything: it is a label: what it is worth is what the hold of that sum in a sandbox is worth. -/
noncomputable def Yba.pinned : Pinned := { name := "ybulkdqpk", sum := "074aca0907fb1db02970ae9741a64374fd62070138349217b9929134a9b55cb0", checked := Yba.checked }
namespace Rows
def none {H : Type} : Left H := { results := [], args := [] }

/-- 'ferrule.LawS5873AWhole': WHATEVER THE INPUT: true; the input reads as it did. -/
def lawS5873AWholeSpec : ChangeSpec := { name := "lawS5873AWhole", fn := fun _ => fun
  | [d1, d2] => { results := [.lit (.bool true)], args := [d1, d2] }
  | _ => none }
def lawS5873AWholeRow : OpenClaim := { program := "ybulkdqpk", sum := "074aca0907fb1db02970ae9741a64374fd62070138349217b9929134a9b55cb0", func := "example.com/ferrule/ferrule.LawS5873AWhole", spec := "lawS5873AWhole", inPlace := ["internal/abi.NoEscape"], apart := false }
def LawS5873AWholeSaid : Prop := lawS5873AWholeRow.holds Yba.pinned (OpenSpec.ofChange lawS5873AWholeSpec)

/-- ITS FALSE NEIGHBOUR: 'it returns false'. Refute it at one input. -/
def lawS5873AWholeWrong : ChangeSpec := { name := "lawS5873AWhole", fn := fun _ => fun
  | [d1, d2] => { results := [.lit (.bool false)], args := [d1, d2] }
  | _ => none }
def LawS5873AWholeWrongFalsely : Prop := lawS5873AWholeRow.holds Yba.pinned (OpenSpec.ofChange lawS5873AWholeWrong)

end Rows
end Go.Proofs.Ybulkdqpk
