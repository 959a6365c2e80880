/-
  No cell of these rows narrows 'for every input' (looked for: loops, veiled, ifaces, maps, wideKeys, modest, calm, conditions, laid).
  DERIVED. THE GIVEN ROWS OF THIS SEAT. 2 by the template 'for every input the law returns true; each argument reads behind the call as it read before'; 0 by the template 'total and deterministic' (their statements: YbulkxsmTotals.lean).
  GIVEN WITH THE SEED: the statements are not yours to turn. If you find one false, say at which input.
  Laid BY PROGRAM, IN A SANDBOX (cutbox-rows.mjs): the forced cells as the released guide's own fill.sh prints them over the translation 1ac357fda5fa2b7a… (all of the seat's roots in one cut). By AI agents, Wed Nov 11 2026. No macro, syntax, notation, axiom, sorry.
-/
import Derived.Test.YbulkxsmChecked
import GoSem.Claim
import GoSem.ClaimJoined
import GoSem.ClaimMapViews
import Derived.JoinedTies
import Derived.KernelRfl
namespace Go.Proofs.Ybulkxsm
/- THE CELL 'sum', in the pinned program and in every row, IS THE sha256 OF THE DUMP (.gsa) THAT YbulkxsmProg.lean LOADS. Nothing in Lean hashes anything: it is a label: what it is worth is what the hold of that sum in a sandbox is worth. -/
noncomputable def Yba.pinned : Pinned := { name := "ybulkxsm", sum := "1ac357fda5fa2b7ae9e2cd46c1e8c2b9da4c29a6bb8e1ad252bfb5eccd0fb8a9", checked := Yba.checked }
namespace Rows
def none {H : Type} : Left H := { results := [], args := [] }

/-- 'qcow2.LawS1195AStep': WHATEVER THE INPUT: true; the input reads as it did. -/
def lawS1195AStepSpec : ChangeSpec := { name := "lawS1195AStep", fn := fun _ => fun
  | [d1, d2] => { results := [.lit (.bool true)], args := [d1, d2] }
  | _ => none }
def lawS1195AStepRow : OpenClaim := { program := "ybulkxsm", sum := "1ac357fda5fa2b7ae9e2cd46c1e8c2b9da4c29a6bb8e1ad252bfb5eccd0fb8a9", func := "example.com/driftmark/driftmark/internal/qcow2.LawS1195AStep", spec := "lawS1195AStep", unfollowed := true, recurses := true, apart := false }
def LawS1195AStepSaid : Prop := lawS1195AStepRow.holds Yba.pinned (OpenSpec.ofChange lawS1195AStepSpec)

/-- ITS FALSE NEIGHBOUR: 'it returns false'. Refute it at one input. -/
def lawS1195AStepWrong : ChangeSpec := { name := "lawS1195AStep", fn := fun _ => fun
  | [d1, d2] => { results := [.lit (.bool false)], args := [d1, d2] }
  | _ => none }
def LawS1195AStepWrongFalsely : Prop := lawS1195AStepRow.holds Yba.pinned (OpenSpec.ofChange lawS1195AStepWrong)

/-- 'qcow2.LawS1195ADrain': WHATEVER THE INPUT: true; the input reads as it did. -/
def lawS1195ADrainSpec : ChangeSpec := { name := "lawS1195ADrain", fn := fun _ => fun
  | [d1, d2] => { results := [.lit (.bool true)], args := [d1, d2] }
  | _ => none }
def lawS1195ADrainRow : OpenClaim := { program := "ybulkxsm", sum := "1ac357fda5fa2b7ae9e2cd46c1e8c2b9da4c29a6bb8e1ad252bfb5eccd0fb8a9", func := "example.com/driftmark/driftmark/internal/qcow2.LawS1195ADrain", spec := "lawS1195ADrain", unfollowed := true, recurses := true, apart := false }
def LawS1195ADrainSaid : Prop := lawS1195ADrainRow.holds Yba.pinned (OpenSpec.ofChange lawS1195ADrainSpec)

/-- ITS FALSE NEIGHBOUR: 'it returns false'. Refute it at one input. -/
def lawS1195ADrainWrong : ChangeSpec := { name := "lawS1195ADrain", fn := fun _ => fun
  | [d1, d2] => { results := [.lit (.bool false)], args := [d1, d2] }
  | _ => none }
def LawS1195ADrainWrongFalsely : Prop := lawS1195ADrainRow.holds Yba.pinned (OpenSpec.ofChange lawS1195ADrainWrong)

end Rows
end Go.Proofs.Ybulkxsm
