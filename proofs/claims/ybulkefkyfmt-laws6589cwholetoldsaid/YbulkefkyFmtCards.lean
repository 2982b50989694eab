/-
  DERIVED. GIVEN WITH THE SEED: THE CARDS: each row of YbulkefkyFmtRows.lean that lists a variable, with what it lists TIED to the program's text (the seventh form; the later family's looks); each row that meets fmt, with fmt's text TOLD by the authors' own Lean function (tested against real Go, not proved from fmt's source: count such statements apart). THE CARD IS WHAT COUNTS. Prove the row's statement (the work); the ties are given (YbulkefkyFmtTie.lean); close each card by the builder's one call (the guide's Derived/Test/ToyasCard.lean, 'card_holds'). Laid BY PROGRAM, IN A SANDBOX (cutbox-door.mjs). By AI agents, Wed Nov 11 2026. No macro, syntax, notation, axiom, sorry.
-/
import Derived.Test.YbulkefkyFmtRows
import GoSem.ClaimSeven
namespace Go.Proofs.YbulkefkyFmt
namespace Rows

/-- THE TOLD CARD OF 'eonia.LawS6589BWhole'. -/
def lawS6589BWholeCard : Claim7 := { stood := { row := lawS6589BWholeRow, standIns := [], harness := (true, "037bd3c3439771ea43175eeae5e694698999b879d5484be839509a1577fa47c4"), looks := false }, told := true, goes := false }
def LawS6589BWholeToldSaid : Prop := Claim7.holds Ybaf.pinned (.plain (OpenSpec.ofChange lawS6589BWholeSpec)) lawS6589BWholeCard
/-- ITS FALSE NEIGHBOUR. Refute it at one input. -/
def LawS6589BWholeToldWrongFalsely : Prop := Claim7.holds Ybaf.pinned (.plain (OpenSpec.ofChange lawS6589BWholeWrong)) lawS6589BWholeCard

/-- THE TOLD CARD OF 'fra.LawS6589CWhole'. -/
def lawS6589CWholeCard : Claim7 := { stood := { row := lawS6589CWholeRow, standIns := [], harness := (true, "037bd3c3439771ea43175eeae5e694698999b879d5484be839509a1577fa47c4"), looks := false }, told := true, goes := false }
def LawS6589CWholeToldSaid : Prop := Claim7.holds Ybaf.pinned (.plain (OpenSpec.ofChange lawS6589CWholeSpec)) lawS6589CWholeCard
/-- ITS FALSE NEIGHBOUR. Refute it at one input. -/
def LawS6589CWholeToldWrongFalsely : Prop := Claim7.holds Ybaf.pinned (.plain (OpenSpec.ofChange lawS6589CWholeWrong)) lawS6589CWholeCard
end Rows
end Go.Proofs.YbulkefkyFmt
