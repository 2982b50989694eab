/-
  No cell of these rows narrows 'for every input' (looked for: loops, veiled, ifaces, maps, wideKeys, modest, calm, conditions, laid).
  DERIVED. THE GIVEN ROWS OF THIS SEAT. 1 by the template 'for every input the law returns true; each argument reads behind the call as it read before'; 0 by the template 'total and deterministic' (their statements: YbulkefhsFmtTotals.lean).
  GIVEN WITH THE SEED: the statements are not yours to turn. If you find one false, say at which input.
  Laid BY PROGRAM, IN A SANDBOX (cutbox-rows.mjs): the forced cells as the released guide's own fill.sh prints them over the translation 0416c794a10ad087… (all of the seat's roots in one cut). By AI agents, Wed Nov 11 2026. No macro, syntax, notation, axiom, sorry.
-/
import Derived.Test.YbulkefhsFmtChecked
import GoSem.Claim
import GoSem.ClaimJoined
import GoSem.ClaimMapViews
import Derived.JoinedTies
import Derived.KernelRfl
namespace Go.Proofs.YbulkefhsFmt
/- THE CELL 'sum', in the pinned program and in every row, IS THE sha256 OF THE DUMP (.gsa) THAT YbulkefhsFmtProg.lean LOADS. Nothing in Lean hashes anything: it is a label: what it is worth is what the hold of that sum in a sandbox is worth. -/
noncomputable def Ybaf.pinned : Pinned := { name := "ybulkefhsfmt", sum := "0416c794a10ad08770c86b5dd1196e82536fedfb7d8f6a0700cf3a18ba9db7ec", checked := Ybaf.checked }
namespace Rows
def none {H : Type} : Left H := { results := [], args := [] }

/-- 'roamcodec.LawS6583BWhole': WHATEVER THE INPUT: true; the input reads as it did. -/
def lawS6583BWholeSpec : ChangeSpec := { name := "lawS6583BWhole", fn := fun _ => fun
  | [d1, d2, d3] => { results := [.lit (.bool true)], args := [d1, d2, d3] }
  | _ => none }
def lawS6583BWholeRow : OpenClaim := { program := "ybulkefhsfmt", sum := "0416c794a10ad08770c86b5dd1196e82536fedfb7d8f6a0700cf3a18ba9db7ec", func := "example.com/roamcodec/roamcodec.LawS6583BWhole", spec := "lawS6583BWhole", stops := ["fmt.errorf"], inPlace := ["fmt.errorf"], apart := false }
/-- NO THEOREM (fmt's text is open here; it may be false): for the released tool's asking of the row's closed facts alone. THE STATEMENT IS 'LawS6583BWholeToldSaid' (YbulkefhsFmtCards.lean). -/
def LawS6583BWholeFormAsk : Prop := lawS6583BWholeRow.holds Ybaf.pinned (OpenSpec.ofChange lawS6583BWholeSpec)

/-- ITS FALSE NEIGHBOUR: 'it returns false'. Refute it at one input. -/
def lawS6583BWholeWrong : ChangeSpec := { name := "lawS6583BWhole", fn := fun _ => fun
  | [d1, d2, d3] => { results := [.lit (.bool false)], args := [d1, d2, d3] }
  | _ => none }
def LawS6583BWholeWrongFormAsk : Prop := lawS6583BWholeRow.holds Ybaf.pinned (OpenSpec.ofChange lawS6583BWholeWrong)

end Rows
end Go.Proofs.YbulkefhsFmt
