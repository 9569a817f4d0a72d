/-
  No cell of these rows narrows 'for every input' (looked for: loops, veiled, ifaces, maps, wideKeys, modest, calm, conditions, laid).
  DERIVED. THE GIVEN ROWS OF THIS SEAT. 1 by the template 'for every input the law returns true; each argument reads behind the call as it read before'; 0 by the template 'total and deterministic' (their statements: YbulkexpkoTotals.lean).
  GIVEN WITH THE SEED: the statements are not yours to turn. If you find one false, say at which input.
  Laid BY PROGRAM, IN A SANDBOX (cutbox-rows.mjs): the forced cells as the released guide's own fill.sh prints them over the translation 1250d6c870b711df… (all of the seat's roots in one cut). By AI agents, Wed Nov 11 2026. No macro, syntax, notation, axiom, sorry.
-/
import Derived.Test.YbulkexpkoChecked
import GoSem.Claim
import GoSem.ClaimJoined
import GoSem.ClaimMapViews
import Derived.JoinedTies
import Derived.KernelRfl
namespace Go.Proofs.Ybulkexpko
/- THE CELL 'sum', in the pinned program and in every row, IS THE sha256 OF THE DUMP (.gsa) THAT YbulkexpkoProg.lean LOADS. Nothing in Lean hashes anything: it is a label: what it is worth is what the hold of that sum in a sandbox is worth. -/
noncomputable def Yba.pinned : Pinned := { name := "ybulkexpko", sum := "1250d6c870b711df0626b584c70b249838fe4f9fec3e7944f3552f4200da2722", checked := Yba.checked }
namespace Rows
def none {H : Type} : Left H := { results := [], args := [] }

/-- 'store.LawS194130BWhole': WHATEVER THE INPUT: true; the input reads as it did. -/
def lawS194130BWholeSpec : ChangeSpec := { name := "lawS194130BWhole", fn := fun _ => fun
  | [d1, d2, d3, d4, d5] => { results := [.lit (.bool true)], args := [d1, d2, d3, d4, d5] }
  | _ => none }
def lawS194130BWholeRow : OpenClaim := { program := "ybulkexpko", sum := "1250d6c870b711df0626b584c70b249838fe4f9fec3e7944f3552f4200da2722", func := "example.com/isolene/isolene/pkg/store.LawS194130BWhole", spec := "lawS194130BWhole", apart := false }
def LawS194130BWholeSaid : Prop := lawS194130BWholeRow.holds Yba.pinned (OpenSpec.ofChange lawS194130BWholeSpec)

/-- ITS FALSE NEIGHBOUR: 'it returns false'. Refute it at one input. -/
def lawS194130BWholeWrong : ChangeSpec := { name := "lawS194130BWhole", fn := fun _ => fun
  | [d1, d2, d3, d4, d5] => { results := [.lit (.bool false)], args := [d1, d2, d3, d4, d5] }
  | _ => none }
def LawS194130BWholeWrongFalsely : Prop := lawS194130BWholeRow.holds Yba.pinned (OpenSpec.ofChange lawS194130BWholeWrong)

end Rows
end Go.Proofs.Ybulkexpko
