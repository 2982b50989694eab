/-
  DERIVED. GIVEN WITH THE SEED: THE CARDS: each row of YbulkefhsFmtRows.lean that lists a variable, with what it lists TIED to the program's text (the seventh form; the later family's looks); each row that meets fmt, with fmt's text TOLD by the authors' own Lean function (tested against real Go, not proved from fmt's source: count such statements apart). THE CARD IS WHAT COUNTS. Prove the row's statement (the work); the ties are given (YbulkefhsFmtTie.lean); close each card by the builder's one call (the guide's Derived/Test/ToyasCard.lean, 'card_holds'). Laid BY PROGRAM, IN A SANDBOX (cutbox-door.mjs). By AI agents, Wed Nov 11 2026. No macro, syntax, notation, axiom, sorry.
-/
import Derived.Test.YbulkefhsFmtRows
import GoSem.ClaimSeven
namespace Go.Proofs.YbulkefhsFmt
namespace Rows

/-- THE TOLD CARD OF 'roamcodec.LawS6583BWhole'. -/
def lawS6583BWholeCard : Claim7 := { stood := { row := lawS6583BWholeRow, standIns := [], harness := (true, "c8d4ea6649c8c5cee4e3f956e45ed2cc654946c40369a6bd2b639b8a79683d9c"), looks := false }, told := true, goes := false }
def LawS6583BWholeToldSaid : Prop := Claim7.holds Ybaf.pinned (.plain (OpenSpec.ofChange lawS6583BWholeSpec)) lawS6583BWholeCard
/-- ITS FALSE NEIGHBOUR. Refute it at one input. -/
def LawS6583BWholeToldWrongFalsely : Prop := Claim7.holds Ybaf.pinned (.plain (OpenSpec.ofChange lawS6583BWholeWrong)) lawS6583BWholeCard
end Rows
end Go.Proofs.YbulkefhsFmt
