/-
  No cell of these rows narrows 'for every input' (looked for: loops, veiled, ifaces, maps, wideKeys, modest, calm, conditions, laid).
  DERIVED. THE GIVEN ROWS OF THIS SEAT. 1 by the template 'for every input the law returns true; each argument reads behind the call as it read before'; 0 by the template 'total and deterministic' (their statements: YbulkexpqmFmtTotals.lean).
  GIVEN WITH THE SEED: the statements are not yours to turn. If you find one false, say at which input.
  Laid BY PROGRAM, IN A SANDBOX (cutbox-rows.mjs): the forced cells as the released guide's own fill.sh prints them over the translation eb2097f134559ceb… (all of the seat's roots in one cut). By AI agents, Wed Nov 11 2026. No macro, syntax, notation, axiom, sorry.
-/
import Derived.Test.YbulkexpqmFmtChecked
import GoSem.Claim
import GoSem.ClaimJoined
import GoSem.ClaimMapViews
import Derived.JoinedTies
import Derived.KernelRfl
namespace Go.Proofs.YbulkexpqmFmt
/- THE CELL 'sum', in the pinned program and in every row, IS THE sha256 OF THE DUMP (.gsa) THAT YbulkexpqmFmtProg.lean LOADS. Nothing in Lean hashes anything: it is a label: what it is worth is what the hold of that sum in a sandbox is worth. -/
noncomputable def Ybaf.pinned : Pinned := { name := "ybulkexpqmfmt", sum := "eb2097f134559ceb7b8c1c4a28edaa01c2a1e21175bfd6fab33a0d0a919d841d", checked := Ybaf.checked }
namespace Rows
def none {H : Type} : Left H := { results := [], args := [] }

/-- 'cadence.LawS194141CWhole': WHATEVER THE INPUT: true; the input reads as it did. -/
def lawS194141CWholeSpec : ChangeSpec := { name := "lawS194141CWhole", fn := fun _ => fun
  | [d1, d2, d3, d4] => { results := [.lit (.bool true)], args := [d1, d2, d3, d4] }
  | _ => none }
def lawS194141CWholeRow : OpenClaim := { program := "ybulkexpqmfmt", sum := "eb2097f134559ceb7b8c1c4a28edaa01c2a1e21175bfd6fab33a0d0a919d841d", func := "example.com/brevis/brevis/cadence.LawS194141CWhole", spec := "lawS194141CWhole", stops := ["fmt.Sprintf"], inPlace := ["fmt.Sprintf"], apart := false }
/-- NO THEOREM (fmt's text is open here; it may be false): for the released tool's asking of the row's closed facts alone. THE STATEMENT IS 'LawS194141CWholeToldSaid' (YbulkexpqmFmtCards.lean). -/
def LawS194141CWholeFormAsk : Prop := lawS194141CWholeRow.holds Ybaf.pinned (OpenSpec.ofChange lawS194141CWholeSpec)

/-- ITS FALSE NEIGHBOUR: 'it returns false'. Refute it at one input. -/
def lawS194141CWholeWrong : ChangeSpec := { name := "lawS194141CWhole", fn := fun _ => fun
  | [d1, d2, d3, d4] => { results := [.lit (.bool false)], args := [d1, d2, d3, d4] }
  | _ => none }
def LawS194141CWholeWrongFormAsk : Prop := lawS194141CWholeRow.holds Ybaf.pinned (OpenSpec.ofChange lawS194141CWholeWrong)

end Rows
end Go.Proofs.YbulkexpqmFmt
