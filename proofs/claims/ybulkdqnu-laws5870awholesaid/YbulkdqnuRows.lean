/-
  No cell of these rows narrows 'for every input' (looked for: loops, veiled, ifaces, maps, wideKeys, modest, calm, conditions, laid).
  DERIVED. THE GIVEN ROWS OF THIS SEAT. 1 by the template 'for every input the law returns true; each argument reads behind the call as it read before'; 0 by the template 'total and deterministic' (their statements: YbulkdqnuTotals.lean).
  GIVEN WITH THE SEED: the statements are not yours to turn. If you find one false, say at which input.
  Laid BY PROGRAM, IN A SANDBOX (cutbox-rows.mjs): the forced cells as the released guide's own fill.sh prints them over the translation abe975d17c87c22a… (all of the seat's roots in one cut). By AI agents, Wed Nov 11 2026. No macro, syntax, notation, axiom, sorry.
-/
import Derived.Test.YbulkdqnuChecked
import GoSem.Claim
import GoSem.ClaimJoined
import GoSem.ClaimMapViews
import Derived.JoinedTies
import Derived.KernelRfl
namespace Go.Proofs.Ybulkdqnu
/- THE CELL 'sum', in the pinned program and in every row, IS THE sha256 OF THE DUMP (.gsa) THAT YbulkdqnuProg.lean LOADS. Nothing in Lean hashes anything: it is a label: what it is worth is what the hold of that sum in a sandbox is worth. -/
noncomputable def Yba.pinned : Pinned := { name := "ybulkdqnu", sum := "abe975d17c87c22a951dea685b745c2ff0069bc90cf72a72b8f4eec269f1c3cd", checked := Yba.checked }
namespace Rows
def none {H : Type} : Left H := { results := [], args := [] }

/-- 'ringward.LawS5870AWhole': WHATEVER THE INPUT: true; the input reads as it did. -/
def lawS5870AWholeSpec : ChangeSpec := { name := "lawS5870AWhole", fn := fun _ => fun
  | [d1, d2] => { results := [.lit (.bool true)], args := [d1, d2] }
  | _ => none }
def lawS5870AWholeRow : OpenClaim := { program := "ybulkdqnu", sum := "abe975d17c87c22a951dea685b745c2ff0069bc90cf72a72b8f4eec269f1c3cd", func := "example.com/ringward/ringward.LawS5870AWhole", spec := "lawS5870AWhole", inPlace := ["internal/bytealg.Compare"], apart := false }
def LawS5870AWholeSaid : Prop := lawS5870AWholeRow.holds Yba.pinned (OpenSpec.ofChange lawS5870AWholeSpec)

/-- ITS FALSE NEIGHBOUR: 'it returns false'. Refute it at one input. -/
def lawS5870AWholeWrong : ChangeSpec := { name := "lawS5870AWhole", fn := fun _ => fun
  | [d1, d2] => { results := [.lit (.bool false)], args := [d1, d2] }
  | _ => none }
def LawS5870AWholeWrongFalsely : Prop := lawS5870AWholeRow.holds Yba.pinned (OpenSpec.ofChange lawS5870AWholeWrong)

end Rows
end Go.Proofs.Ybulkdqnu
