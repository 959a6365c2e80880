/-
  No cell of these rows narrows 'for every input' (looked for: loops, veiled, ifaces, maps, wideKeys, modest, calm, conditions, laid).
  DERIVED. THE GIVEN ROWS OF THIS SEAT. 2 by the template 'for every input the law returns true; each argument reads behind the call as it read before'; 0 by the template 'total and deterministic' (their statements: YbulkxryTotals.lean).
  GIVEN WITH THE SEED: the statements are not yours to turn. If you find one false, say at which input.
  Laid BY PROGRAM, IN A SANDBOX (cutbox-rows.mjs): the forced cells as the released guide's own fill.sh prints them over the translation 877c2a2d07089109… (all of the seat's roots in one cut). By AI agents, Wed Nov 11 2026. No macro, syntax, notation, axiom, sorry.
-/
import Derived.Test.YbulkxryChecked
import GoSem.Claim
import GoSem.ClaimJoined
import GoSem.ClaimMapViews
import Derived.JoinedTies
import Derived.KernelRfl
namespace Go.Proofs.Ybulkxry
/- THE CELL 'sum', in the pinned program and in every row, IS THE sha256 OF THE DUMP (.gsa) THAT YbulkxryProg.lean LOADS. Nothing in Lean hashes anything: it is a label: what it is worth is what the hold of that sum in a sandbox is worth. -/
noncomputable def Yba.pinned : Pinned := { name := "ybulkxry", sum := "877c2a2d07089109e6f814ba9d7adcf86bfe4298faf7b869ccef6ad38a12dcc3", checked := Yba.checked }
namespace Rows
def none {H : Type} : Left H := { results := [], args := [] }

/-- 'leapring.LawS1194AShape': WHATEVER THE INPUT: true; the input reads as it did. -/
def lawS1194AShapeSpec : ChangeSpec := { name := "lawS1194AShape", fn := fun _ => fun
  | [d1, d2] => { results := [.lit (.bool true)], args := [d1, d2] }
  | _ => none }
def lawS1194AShapeRow : OpenClaim := { program := "ybulkxry", sum := "877c2a2d07089109e6f814ba9d7adcf86bfe4298faf7b869ccef6ad38a12dcc3", func := "example.com/leapring/leapring.LawS1194AShape", spec := "lawS1194AShape", apart := false }
def LawS1194AShapeSaid : Prop := lawS1194AShapeRow.holds Yba.pinned (OpenSpec.ofChange lawS1194AShapeSpec)

/-- ITS FALSE NEIGHBOUR: 'it returns false'. Refute it at one input. -/
def lawS1194AShapeWrong : ChangeSpec := { name := "lawS1194AShape", fn := fun _ => fun
  | [d1, d2] => { results := [.lit (.bool false)], args := [d1, d2] }
  | _ => none }
def LawS1194AShapeWrongFalsely : Prop := lawS1194AShapeRow.holds Yba.pinned (OpenSpec.ofChange lawS1194AShapeWrong)

/-- 'leapring.LawS1194AFresh': WHATEVER THE INPUT: true; the input reads as it did. -/
def lawS1194AFreshSpec : ChangeSpec := { name := "lawS1194AFresh", fn := fun _ => fun
  | [d1, d2] => { results := [.lit (.bool true)], args := [d1, d2] }
  | _ => none }
def lawS1194AFreshRow : OpenClaim := { program := "ybulkxry", sum := "877c2a2d07089109e6f814ba9d7adcf86bfe4298faf7b869ccef6ad38a12dcc3", func := "example.com/leapring/leapring.LawS1194AFresh", spec := "lawS1194AFresh", apart := false }
def LawS1194AFreshSaid : Prop := lawS1194AFreshRow.holds Yba.pinned (OpenSpec.ofChange lawS1194AFreshSpec)

/-- ITS FALSE NEIGHBOUR: 'it returns false'. Refute it at one input. -/
def lawS1194AFreshWrong : ChangeSpec := { name := "lawS1194AFresh", fn := fun _ => fun
  | [d1, d2] => { results := [.lit (.bool false)], args := [d1, d2] }
  | _ => none }
def LawS1194AFreshWrongFalsely : Prop := lawS1194AFreshRow.holds Yba.pinned (OpenSpec.ofChange lawS1194AFreshWrong)

end Rows
end Go.Proofs.Ybulkxry
