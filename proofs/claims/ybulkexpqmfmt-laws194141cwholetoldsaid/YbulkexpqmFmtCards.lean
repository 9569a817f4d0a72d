/-
  DERIVED. GIVEN WITH THE SEED: THE CARDS: each row of YbulkexpqmFmtRows.lean that lists a variable, with what it lists TIED to the program's text (the seventh form; the later family's looks); each row that meets fmt, with fmt's text TOLD by the authors' own Lean function (tested against real Go, not proved from fmt's source: count such statements apart). THE CARD IS WHAT COUNTS. Prove the row's statement (the work); the ties are given (YbulkexpqmFmtTie.lean); close each card by the builder's one call (the guide's Derived/Test/ToyasCard.lean, 'card_holds'). Laid BY PROGRAM, IN A SANDBOX (cutbox-door.mjs). By AI agents, Wed Nov 11 2026. No macro, syntax, notation, axiom, sorry.
-/
import Derived.Test.YbulkexpqmFmtRows
import GoSem.ClaimSeven
namespace Go.Proofs.YbulkexpqmFmt
namespace Rows

/-- THE TOLD CARD OF 'cadence.LawS194141CWhole'. -/
def lawS194141CWholeCard : Claim7 := { stood := { row := lawS194141CWholeRow, standIns := [], harness := (true, "df659c41fcb2fc08d5c532e58fc4da57b3330c0891ebb7b683cc8a8c16535d68"), looks := true }, told := true, goes := false }
def LawS194141CWholeToldSaid : Prop := Claim7.holds Ybaf.pinned (.plain (OpenSpec.ofChange lawS194141CWholeSpec)) lawS194141CWholeCard
/-- ITS FALSE NEIGHBOUR. Refute it at one input. -/
def LawS194141CWholeToldWrongFalsely : Prop := Claim7.holds Ybaf.pinned (.plain (OpenSpec.ofChange lawS194141CWholeWrong)) lawS194141CWholeCard
end Rows
end Go.Proofs.YbulkexpqmFmt
