/-
  No cell of these rows narrows 'for every input' (looked for: loops, veiled, ifaces, maps, wideKeys, modest, calm, conditions, laid).
  DERIVED. THE GIVEN ROWS OF THIS SEAT. 1 by the template 'for every input the law returns true; each argument reads behind the call as it read before'; 0 by the template 'total and deterministic' (their statements: YbulkxrkTotals.lean).
  GIVEN WITH THE SEED: the statements are not yours to turn. If you find one false, say at which input.
  Laid BY PROGRAM, IN A SANDBOX (cutbox-rows.mjs): the forced cells as the released guide's own fill.sh prints them over the translation 21e076eda3b9ddf3… (all of the seat's roots in one cut). By AI agents, Wed Nov 11 2026. No macro, syntax, notation, axiom, sorry.
-/
import Derived.Test.YbulkxrkChecked
import GoSem.Claim
import GoSem.ClaimJoined
import GoSem.ClaimMapViews
import Derived.JoinedTies
import Derived.KernelRfl
namespace Go.Proofs.Ybulkxrk
/- THE CELL 'sum', in the pinned program and in every row, IS THE sha256 OF THE DUMP (.gsa) THAT YbulkxrkProg.lean LOADS. Nothing in Lean hashes anything: it is a label: what it is worth is what the hold of that sum in a sandbox is worth. -/
noncomputable def Yba.pinned : Pinned := { name := "ybulkxrk", sum := "21e076eda3b9ddf3b3f6d9f6a8ea92db8ee60a1b96059b729fade7e9aea1d255", checked := Yba.checked }
namespace Rows
def none {H : Type} : Left H := { results := [], args := [] }

/-- 'branchyard.LawS1193BFill': WHATEVER THE INPUT: true; the input reads as it did. -/
def lawS1193BFillSpec : ChangeSpec := { name := "lawS1193BFill", fn := fun _ => fun
  | [d1, d2, d3, d4, d5, d6, d7] => { results := [.lit (.bool true)], args := [d1, d2, d3, d4, d5, d6, d7] }
  | _ => none }
def lawS1193BFillRow : OpenClaim := { program := "ybulkxrk", sum := "21e076eda3b9ddf3b3f6d9f6a8ea92db8ee60a1b96059b729fade7e9aea1d255", func := "example.com/branchyard/branchyard.LawS1193BFill", spec := "lawS1193BFill", apart := false }
def LawS1193BFillSaid : Prop := lawS1193BFillRow.holds Yba.pinned (OpenSpec.ofChange lawS1193BFillSpec)

/-- ITS FALSE NEIGHBOUR: 'it returns false'. Refute it at one input. -/
def lawS1193BFillWrong : ChangeSpec := { name := "lawS1193BFill", fn := fun _ => fun
  | [d1, d2, d3, d4, d5, d6, d7] => { results := [.lit (.bool false)], args := [d1, d2, d3, d4, d5, d6, d7] }
  | _ => none }
def LawS1193BFillWrongFalsely : Prop := lawS1193BFillRow.holds Yba.pinned (OpenSpec.ofChange lawS1193BFillWrong)

end Rows
end Go.Proofs.Ybulkxrk
