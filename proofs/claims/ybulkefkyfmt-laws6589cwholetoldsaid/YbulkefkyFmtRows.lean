/-
  No cell of these rows narrows 'for every input' (looked for: loops, veiled, ifaces, maps, wideKeys, modest, calm, conditions, laid).
  DERIVED. THE GIVEN ROWS OF THIS SEAT. 2 by the template 'for every input the law returns true; each argument reads behind the call as it read before'; 0 by the template 'total and deterministic' (their statements: YbulkefkyFmtTotals.lean).
  GIVEN WITH THE SEED: the statements are not yours to turn. If you find one false, say at which input.
  Laid BY PROGRAM, IN A SANDBOX (cutbox-rows.mjs): the forced cells as the released guide's own fill.sh prints them over the translation 6dd6a3ca9e8e976c… (all of the seat's roots in one cut). By AI agents, Wed Nov 11 2026. No macro, syntax, notation, axiom, sorry.
-/
import Derived.Test.YbulkefkyFmtChecked
import GoSem.Claim
import GoSem.ClaimJoined
import GoSem.ClaimMapViews
import Derived.JoinedTies
import Derived.KernelRfl
namespace Go.Proofs.YbulkefkyFmt
/- THE CELL 'sum', in the pinned program and in every row, IS THE sha256 OF THE DUMP (.gsa) THAT YbulkefkyFmtProg.lean LOADS. Nothing in Lean hashes anything: it is a label: what it is worth is what the hold of that sum in a sandbox is worth. -/
noncomputable def Ybaf.pinned : Pinned := { name := "ybulkefkyfmt", sum := "6dd6a3ca9e8e976c4113463d175cbf86752a7a743940295a2a0580feba07b8fa", checked := Ybaf.checked }
namespace Rows
def none {H : Type} : Left H := { results := [], args := [] }

/-- 'eonia.LawS6589BWhole': WHATEVER THE INPUT: true; the input reads as it did. -/
def lawS6589BWholeSpec : ChangeSpec := { name := "lawS6589BWhole", fn := fun _ => fun
  | [d] => { results := [.lit (.bool true)], args := [d] }
  | _ => none }
def lawS6589BWholeRow : OpenClaim := { program := "ybulkefkyfmt", sum := "6dd6a3ca9e8e976c4113463d175cbf86752a7a743940295a2a0580feba07b8fa", func := "example.com/nightfix/nightfix/eonia.LawS6589BWhole", spec := "lawS6589BWhole", stops := ["fmt.Sprintf", "fmt.errorf"], inPlace := ["fmt.Sprintf"], apart := false }
/-- NO THEOREM (fmt's text is open here; it may be false): for the released tool's asking of the row's closed facts alone. THE STATEMENT IS 'LawS6589BWholeToldSaid' (YbulkefkyFmtCards.lean). -/
def LawS6589BWholeFormAsk : Prop := lawS6589BWholeRow.holds Ybaf.pinned (OpenSpec.ofChange lawS6589BWholeSpec)

/-- ITS FALSE NEIGHBOUR: 'it returns false'. Refute it at one input. -/
def lawS6589BWholeWrong : ChangeSpec := { name := "lawS6589BWhole", fn := fun _ => fun
  | [d] => { results := [.lit (.bool false)], args := [d] }
  | _ => none }
def LawS6589BWholeWrongFormAsk : Prop := lawS6589BWholeRow.holds Ybaf.pinned (OpenSpec.ofChange lawS6589BWholeWrong)

/-- 'fra.LawS6589CWhole': WHATEVER THE INPUT: true; the input reads as it did. -/
def lawS6589CWholeSpec : ChangeSpec := { name := "lawS6589CWhole", fn := fun _ => fun
  | [d1, d2] => { results := [.lit (.bool true)], args := [d1, d2] }
  | _ => none }
def lawS6589CWholeRow : OpenClaim := { program := "ybulkefkyfmt", sum := "6dd6a3ca9e8e976c4113463d175cbf86752a7a743940295a2a0580feba07b8fa", func := "example.com/nightfix/nightfix/fra.LawS6589CWhole", spec := "lawS6589CWhole", stops := ["fmt.Sprintf", "fmt.errorf"], inPlace := ["fmt.errorf"], apart := false }
/-- NO THEOREM (fmt's text is open here; it may be false): for the released tool's asking of the row's closed facts alone. THE STATEMENT IS 'LawS6589CWholeToldSaid' (YbulkefkyFmtCards.lean). -/
def LawS6589CWholeFormAsk : Prop := lawS6589CWholeRow.holds Ybaf.pinned (OpenSpec.ofChange lawS6589CWholeSpec)

/-- ITS FALSE NEIGHBOUR: 'it returns false'. Refute it at one input. -/
def lawS6589CWholeWrong : ChangeSpec := { name := "lawS6589CWhole", fn := fun _ => fun
  | [d1, d2] => { results := [.lit (.bool false)], args := [d1, d2] }
  | _ => none }
def LawS6589CWholeWrongFormAsk : Prop := lawS6589CWholeRow.holds Ybaf.pinned (OpenSpec.ofChange lawS6589CWholeWrong)

end Rows
end Go.Proofs.YbulkefkyFmt
