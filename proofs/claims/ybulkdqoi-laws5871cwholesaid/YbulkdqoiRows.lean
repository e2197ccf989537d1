/-
  No cell of these rows narrows 'for every input' (looked for: loops, veiled, ifaces, maps, wideKeys, modest, calm, conditions, laid).
  DERIVED. THE GIVEN ROWS OF THIS SEAT. 1 by the template 'for every input the law returns true; each argument reads behind the call as it read before'; 0 by the template 'total and deterministic' (their statements: YbulkdqoiTotals.lean).
  GIVEN WITH THE SEED: the statements are not yours to turn. If you find one false, say at which input.
  Laid BY PROGRAM, IN A SANDBOX (cutbox-rows.mjs): the forced cells as the released guide's own fill.sh prints them over the translation 3135f51ea713a713… (all of the seat's roots in one cut). By AI agents, Wed Nov 11 2026. No macro, syntax, notation, axiom, sorry.
-/
import Derived.Test.YbulkdqoiChecked
import GoSem.Claim
import GoSem.ClaimJoined
import GoSem.ClaimMapViews
import Derived.JoinedTies
import Derived.KernelRfl
namespace Go.Proofs.Ybulkdqoi
/- THE CELL 'sum', in the pinned program and in every row, IS THE sha256 OF THE DUMP (.gsa) THAT YbulkdqoiProg.lean LOADS. Nothing in Lean hashes anything: it is a label: what it is worth is what the hold of that sum in a sandbox is worth. -/
noncomputable def Yba.pinned : Pinned := { name := "ybulkdqoi", sum := "3135f51ea713a7130b0bf938f010b0fbc644f176f993561dc1d57978fd5825ee", checked := Yba.checked }
namespace Rows
def none {H : Type} : Left H := { results := [], args := [] }

/-- 'beforehand.LawS5871CWhole': WHATEVER THE INPUT: true; the input reads as it did. -/
def lawS5871CWholeSpec : ChangeSpec := { name := "lawS5871CWhole", fn := fun _ => fun
  | [d1, d2, d3, d4, d5, d6, d7] => { results := [.lit (.bool true)], args := [d1, d2, d3, d4, d5, d6, d7] }
  | _ => none }
def lawS5871CWholeRow : OpenClaim := { program := "ybulkdqoi", sum := "3135f51ea713a7130b0bf938f010b0fbc644f176f993561dc1d57978fd5825ee", func := "example.com/beforehand/beforehand.LawS5871CWhole", spec := "lawS5871CWhole", inPlace := ["sync/atomic.LoadUint64", "sync/atomic.CompareAndSwapUint64"], apart := false }
def LawS5871CWholeSaid : Prop := lawS5871CWholeRow.holds Yba.pinned (OpenSpec.ofChange lawS5871CWholeSpec)

/-- ITS FALSE NEIGHBOUR: 'it returns false'. Refute it at one input. -/
def lawS5871CWholeWrong : ChangeSpec := { name := "lawS5871CWhole", fn := fun _ => fun
  | [d1, d2, d3, d4, d5, d6, d7] => { results := [.lit (.bool false)], args := [d1, d2, d3, d4, d5, d6, d7] }
  | _ => none }
def LawS5871CWholeWrongFalsely : Prop := lawS5871CWholeRow.holds Yba.pinned (OpenSpec.ofChange lawS5871CWholeWrong)

end Rows
end Go.Proofs.Ybulkdqoi
