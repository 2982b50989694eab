/-
  DERIVED. GIVEN WITH THE SEED: THE CARDS: each row of YbulkefheFmtRows.lean that lists a variable, with what it lists TIED to the program's text (the seventh form; the later family's looks); each row that meets fmt, with fmt's text TOLD by the authors' own Lean function (tested against real Go, not proved from fmt's source: count such statements apart). THE CARD IS WHAT COUNTS. Prove the row's statement (the work); the ties are given (YbulkefheFmtTie.lean); close each card by the builder's one call (the guide's Derived/Test/ToyasCard.lean, 'card_holds'). Laid BY PROGRAM, IN A SANDBOX (cutbox-door.mjs). By AI agents, Wed Nov 11 2026. No macro, syntax, notation, axiom, sorry.
-/
import Derived.Test.YbulkefheFmtRows
import GoSem.ClaimSeven
namespace Go.Proofs.YbulkefheFmt
namespace Rows

/-- THE TOLD CARD OF 'clear-verdict.LawS6582CWhole'. -/
def lawS6582CWholeCard : Claim7 := { stood := { row := lawS6582CWholeRow, standIns := [], harness := (true, "6911780b1009d6237d248d18015544559504bb8ef134daa2998364e8dcbebecc"), looks := false }, told := true, goes := false }
def LawS6582CWholeToldSaid : Prop := Claim7.holds Ybaf.pinned (.plain (OpenSpec.ofChange lawS6582CWholeSpec)) lawS6582CWholeCard
/-- ITS FALSE NEIGHBOUR. Refute it at one input. -/
def LawS6582CWholeToldWrongFalsely : Prop := Claim7.holds Ybaf.pinned (.plain (OpenSpec.ofChange lawS6582CWholeWrong)) lawS6582CWholeCard
end Rows
end Go.Proofs.YbulkefheFmt
