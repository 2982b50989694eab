/-
  No cell of these rows narrows 'for every input' (looked for: loops, veiled, ifaces, maps, wideKeys, modest, calm, conditions, laid).
  DERIVED. THE GIVEN ROWS OF THIS SEAT. 1 by the template 'for every input the law returns true; each argument reads behind the call as it read before'; 0 by the template 'total and deterministic' (their statements: YbulkefheFmtTotals.lean).
  GIVEN WITH THE SEED: the statements are not yours to turn. If you find one false, say at which input.
  Laid BY PROGRAM, IN A SANDBOX (cutbox-rows.mjs): the forced cells as the released guide's own fill.sh prints them over the translation 134f997be83d4ecb… (all of the seat's roots in one cut). By AI agents, Wed Nov 11 2026. No macro, syntax, notation, axiom, sorry.
-/
import Derived.Test.YbulkefheFmtChecked
import GoSem.Claim
import GoSem.ClaimJoined
import GoSem.ClaimMapViews
import Derived.JoinedTies
import Derived.KernelRfl
namespace Go.Proofs.YbulkefheFmt
/- THE CELL 'sum', in the pinned program and in every row, IS THE sha256 OF THE DUMP (.gsa) THAT YbulkefheFmtProg.lean LOADS. Nothing in Lean hashes anything: it is a label: what it is worth is what the hold of that sum in a sandbox is worth. -/
noncomputable def Ybaf.pinned : Pinned := { name := "ybulkefhefmt", sum := "134f997be83d4ecbe92efd5aae32b92f5bf85c23c0b1fd068a9c92f52144e391", checked := Ybaf.checked }
namespace Rows
def none {H : Type} : Left H := { results := [], args := [] }

/-- 'clear-verdict.LawS6582CWhole': WHATEVER THE INPUT: true; the input reads as it did. -/
def lawS6582CWholeSpec : ChangeSpec := { name := "lawS6582CWhole", fn := fun _ => fun
  | [d] => { results := [.lit (.bool true)], args := [d] }
  | _ => none }
def lawS6582CWholeRow : OpenClaim := { program := "ybulkefhefmt", sum := "134f997be83d4ecbe92efd5aae32b92f5bf85c23c0b1fd068a9c92f52144e391", func := "example.com/clear-verdict/clear-verdict.LawS6582CWhole", spec := "lawS6582CWhole", stops := ["fmt.errorf"], inPlace := ["fmt.errorf"], plainKeys := false, apart := false }
/-- NO THEOREM (fmt's text is open here; it may be false): for the released tool's asking of the row's closed facts alone. THE STATEMENT IS 'LawS6582CWholeToldSaid' (YbulkefheFmtCards.lean). -/
def LawS6582CWholeFormAsk : Prop := lawS6582CWholeRow.holds Ybaf.pinned (OpenSpec.ofChange lawS6582CWholeSpec)

/-- ITS FALSE NEIGHBOUR: 'it returns false'. Refute it at one input. -/
def lawS6582CWholeWrong : ChangeSpec := { name := "lawS6582CWhole", fn := fun _ => fun
  | [d] => { results := [.lit (.bool false)], args := [d] }
  | _ => none }
def LawS6582CWholeWrongFormAsk : Prop := lawS6582CWholeRow.holds Ybaf.pinned (OpenSpec.ofChange lawS6582CWholeWrong)

end Rows
end Go.Proofs.YbulkefheFmt
