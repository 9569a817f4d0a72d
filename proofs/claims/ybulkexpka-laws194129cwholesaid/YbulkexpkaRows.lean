/-
  No cell of these rows narrows 'for every input' (looked for: loops, veiled, ifaces, maps, wideKeys, modest, calm, conditions, laid).
  DERIVED. THE GIVEN ROWS OF THIS SEAT. 2 by the template 'for every input the law returns true; each argument reads behind the call as it read before'; 0 by the template 'total and deterministic' (their statements: YbulkexpkaTotals.lean).
  GIVEN WITH THE SEED: the statements are not yours to turn. If you find one false, say at which input.
  Laid BY PROGRAM, IN A SANDBOX (cutbox-rows.mjs): the forced cells as the released guide's own fill.sh prints them over the translation ca26c0eddaf1df0f… (all of the seat's roots in one cut). By AI agents, Wed Nov 11 2026. No macro, syntax, notation, axiom, sorry.
-/
import Derived.Test.YbulkexpkaChecked
import GoSem.Claim
import GoSem.ClaimJoined
import GoSem.ClaimMapViews
import Derived.JoinedTies
import Derived.KernelRfl
namespace Go.Proofs.Ybulkexpka
/- THE CELL 'sum', in the pinned program and in every row, IS THE sha256 OF THE DUMP (.gsa) THAT YbulkexpkaProg.lean LOADS. Nothing in Lean hashes anything: it is a label: what it is worth is what the hold of that sum in a sandbox is worth. -/
noncomputable def Yba.pinned : Pinned := { name := "ybulkexpka", sum := "ca26c0eddaf1df0f57ab407d4e1c9aa6daaa47167fbbb68dce87b04e633f0a67", checked := Yba.checked }
namespace Rows
def none {H : Type} : Left H := { results := [], args := [] }

/-- 'column.LawS194129AWhole': WHATEVER THE INPUT: true; the input reads as it did. -/
def lawS194129AWholeSpec : ChangeSpec := { name := "lawS194129AWhole", fn := fun _ => fun
  | [d1, d2, d3] => { results := [.lit (.bool true)], args := [d1, d2, d3] }
  | _ => none }
def lawS194129AWholeRow : OpenClaim := { program := "ybulkexpka", sum := "ca26c0eddaf1df0f57ab407d4e1c9aa6daaa47167fbbb68dce87b04e633f0a67", func := "example.com/rowscribe/rowscribe/pkg/column.LawS194129AWhole", spec := "lawS194129AWhole", inPlace := ["math.Float64bits"], unfollowed := true, recurses := true, apart := false }
def LawS194129AWholeSaid : Prop := lawS194129AWholeRow.holds Yba.pinned (OpenSpec.ofChange lawS194129AWholeSpec)

/-- ITS FALSE NEIGHBOUR: 'it returns false'. Refute it at one input. -/
def lawS194129AWholeWrong : ChangeSpec := { name := "lawS194129AWhole", fn := fun _ => fun
  | [d1, d2, d3] => { results := [.lit (.bool false)], args := [d1, d2, d3] }
  | _ => none }
def LawS194129AWholeWrongFalsely : Prop := lawS194129AWholeRow.holds Yba.pinned (OpenSpec.ofChange lawS194129AWholeWrong)

/-- 'format.LawS194129CWhole': WHATEVER THE INPUT: true; the input reads as it did. -/
def lawS194129CWholeSpec : ChangeSpec := { name := "lawS194129CWhole", fn := fun _ => fun
  | [d1, d2, d3, d4] => { results := [.lit (.bool true)], args := [d1, d2, d3, d4] }
  | _ => none }
def lawS194129CWholeRow : OpenClaim := { program := "ybulkexpka", sum := "ca26c0eddaf1df0f57ab407d4e1c9aa6daaa47167fbbb68dce87b04e633f0a67", func := "example.com/rowscribe/rowscribe/pkg/format.LawS194129CWhole", spec := "lawS194129CWhole", apart := false }
def LawS194129CWholeSaid : Prop := lawS194129CWholeRow.holds Yba.pinned (OpenSpec.ofChange lawS194129CWholeSpec)

/-- ITS FALSE NEIGHBOUR: 'it returns false'. Refute it at one input. -/
def lawS194129CWholeWrong : ChangeSpec := { name := "lawS194129CWhole", fn := fun _ => fun
  | [d1, d2, d3, d4] => { results := [.lit (.bool false)], args := [d1, d2, d3, d4] }
  | _ => none }
def LawS194129CWholeWrongFalsely : Prop := lawS194129CWholeRow.holds Yba.pinned (OpenSpec.ofChange lawS194129CWholeWrong)

end Rows
end Go.Proofs.Ybulkexpka
