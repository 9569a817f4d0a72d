/-
  No cell of these rows narrows 'for every input' (looked for: loops, veiled, ifaces, maps, wideKeys, modest, calm, conditions, laid).
  DERIVED. THE GIVEN ROWS OF THIS SEAT. 1 by the template 'for every input the law returns true; each argument reads behind the call as it read before'; 0 by the template 'total and deterministic' (their statements: YbulkexppkTotals.lean).
  GIVEN WITH THE SEED: the statements are not yours to turn. If you find one false, say at which input.
  Laid BY PROGRAM, IN A SANDBOX (cutbox-rows.mjs): the forced cells as the released guide's own fill.sh prints them over the translation dc8279bf2cc18198… (all of the seat's roots in one cut). By AI agents, Wed Nov 11 2026. No macro, syntax, notation, axiom, sorry.
-/
import Derived.Test.YbulkexppkChecked
import GoSem.Claim
import GoSem.ClaimJoined
import GoSem.ClaimMapViews
import Derived.JoinedTies
import Derived.KernelRfl
namespace Go.Proofs.Ybulkexppk
/- THE CELL 'sum', in the pinned program and in every row, IS THE sha256 OF THE DUMP (.gsa) THAT YbulkexppkProg.lean LOADS. Nothing in Lean hashes anything: it is a label: what it is worth is what the hold of that sum in a sandbox is worth. -/
noncomputable def Yba.pinned : Pinned := { name := "ybulkexppk", sum := "dc8279bf2cc181980605aa1545d28c38c9423b5157bd40900354743d119e0309", checked := Yba.checked }
namespace Rows
def none {H : Type} : Left H := { results := [], args := [] }

/-- 'federate.LawS194139AWhole': WHATEVER THE INPUT: true; the input reads as it did. -/
def lawS194139AWholeSpec : ChangeSpec := { name := "lawS194139AWhole", fn := fun _ => fun
  | [d1, d2, d3, d4] => { results := [.lit (.bool true)], args := [d1, d2, d3, d4] }
  | _ => none }
def lawS194139AWholeRow : OpenClaim := { program := "ybulkexppk", sum := "dc8279bf2cc181980605aa1545d28c38c9423b5157bd40900354743d119e0309", func := "example.com/datagrounds/datagrounds/pkg/federate.LawS194139AWhole", spec := "lawS194139AWhole", apart := false }
def LawS194139AWholeSaid : Prop := lawS194139AWholeRow.holds Yba.pinned (OpenSpec.ofChange lawS194139AWholeSpec)

/-- ITS FALSE NEIGHBOUR: 'it returns false'. Refute it at one input. -/
def lawS194139AWholeWrong : ChangeSpec := { name := "lawS194139AWhole", fn := fun _ => fun
  | [d1, d2, d3, d4] => { results := [.lit (.bool false)], args := [d1, d2, d3, d4] }
  | _ => none }
def LawS194139AWholeWrongFalsely : Prop := lawS194139AWholeRow.holds Yba.pinned (OpenSpec.ofChange lawS194139AWholeWrong)

end Rows
end Go.Proofs.Ybulkexppk
