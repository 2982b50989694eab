/-
  No cell of these rows narrows 'for every input' (looked for: loops, veiled, ifaces, maps, wideKeys, modest, calm, conditions, laid).
  DERIVED. THE GIVEN ROWS OF THIS SEAT. 1 by the template 'for every input the law returns true; each argument reads behind the call as it read before'; 0 by the template 'total and deterministic' (their statements: YbulkefhsTotals.lean).
  GIVEN WITH THE SEED: the statements are not yours to turn. If you find one false, say at which input.
  Laid BY PROGRAM, IN A SANDBOX (cutbox-rows.mjs): the forced cells as the released guide's own fill.sh prints them over the translation 0e3f102b6b0f5318… (all of the seat's roots in one cut). By AI agents, Wed Nov 11 2026. No macro, syntax, notation, axiom, sorry.
-/
import Derived.Test.YbulkefhsChecked
import GoSem.Claim
import GoSem.ClaimJoined
import GoSem.ClaimMapViews
import Derived.JoinedTies
import Derived.KernelRfl
namespace Go.Proofs.Ybulkefhs
/- THE CELL 'sum', in the pinned program and in every row, IS THE sha256 OF THE DUMP (.gsa) THAT YbulkefhsProg.lean LOADS. Nothing in Lean hashes anything: it is a label: what it is worth is what the hold of that sum in a sandbox is worth. -/
noncomputable def Yba.pinned : Pinned := { name := "ybulkefhs", sum := "0e3f102b6b0f5318333c72ab19cbe6ec79a8430c5ef284ae6d4e50c5c6b4f9ac", checked := Yba.checked }
namespace Rows
def none {H : Type} : Left H := { results := [], args := [] }

/-- 'roamcodec.LawS6583AWhole': WHATEVER THE INPUT: true; the input reads as it did. -/
def lawS6583AWholeSpec : ChangeSpec := { name := "lawS6583AWhole", fn := fun _ => fun
  | [d1, d2] => { results := [.lit (.bool true)], args := [d1, d2] }
  | _ => none }
def lawS6583AWholeRow : OpenClaim := { program := "ybulkefhs", sum := "0e3f102b6b0f5318333c72ab19cbe6ec79a8430c5ef284ae6d4e50c5c6b4f9ac", func := "example.com/roamcodec/roamcodec.LawS6583AWhole", spec := "lawS6583AWhole", apart := false }
def LawS6583AWholeSaid : Prop := lawS6583AWholeRow.holds Yba.pinned (OpenSpec.ofChange lawS6583AWholeSpec)

/-- ITS FALSE NEIGHBOUR: 'it returns false'. Refute it at one input. -/
def lawS6583AWholeWrong : ChangeSpec := { name := "lawS6583AWhole", fn := fun _ => fun
  | [d1, d2] => { results := [.lit (.bool false)], args := [d1, d2] }
  | _ => none }
def LawS6583AWholeWrongFalsely : Prop := lawS6583AWholeRow.holds Yba.pinned (OpenSpec.ofChange lawS6583AWholeWrong)

end Rows
end Go.Proofs.Ybulkefhs
