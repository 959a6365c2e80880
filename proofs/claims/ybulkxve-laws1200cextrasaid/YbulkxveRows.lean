/-
  No cell of these rows narrows 'for every input' (looked for: loops, veiled, ifaces, maps, wideKeys, modest, calm, conditions, laid).
  DERIVED. THE GIVEN ROWS OF THIS SEAT. 2 by the template 'for every input the law returns true; each argument reads behind the call as it read before'; 0 by the template 'total and deterministic' (their statements: YbulkxveTotals.lean).
  GIVEN WITH THE SEED: the statements are not yours to turn. If you find one false, say at which input.
  Laid BY PROGRAM, IN A SANDBOX (cutbox-rows.mjs): the forced cells as the released guide's own fill.sh prints them over the translation 1adb86b2214fd5a3… (all of the seat's roots in one cut). By AI agents, Wed Nov 11 2026. No macro, syntax, notation, axiom, sorry.
-/
import Derived.Test.YbulkxveChecked
import GoSem.Claim
import GoSem.ClaimJoined
import GoSem.ClaimMapViews
import Derived.JoinedTies
import Derived.KernelRfl
namespace Go.Proofs.Ybulkxve
/- THE CELL 'sum', in the pinned program and in every row, IS THE sha256 OF THE DUMP (.gsa) THAT YbulkxveProg.lean LOADS. Nothing in Lean hashes anything: it is a label: what it is worth is what the hold of that sum in a sandbox is worth. -/
noncomputable def Yba.pinned : Pinned := { name := "ybulkxve", sum := "1adb86b2214fd5a358407c099079aa97c769c553bbd1cdb454880b994b856b0c", checked := Yba.checked }
namespace Rows
def none {H : Type} : Left H := { results := [], args := [] }

/-- 'tumbler.LawS1200CAsking': WHATEVER THE INPUT: true; the input reads as it did. -/
def lawS1200CAskingSpec : ChangeSpec := { name := "lawS1200CAsking", fn := fun _ => fun
  | [d1, d2, d3, d4, d5] => { results := [.lit (.bool true)], args := [d1, d2, d3, d4, d5] }
  | _ => none }
def lawS1200CAskingRow : OpenClaim := { program := "ybulkxve", sum := "1adb86b2214fd5a358407c099079aa97c769c553bbd1cdb454880b994b856b0c", func := "example.com/tumbler/tumbler.LawS1200CAsking", spec := "lawS1200CAsking", apart := false }
def LawS1200CAskingSaid : Prop := lawS1200CAskingRow.holds Yba.pinned (OpenSpec.ofChange lawS1200CAskingSpec)

/-- ITS FALSE NEIGHBOUR: 'it returns false'. Refute it at one input. -/
def lawS1200CAskingWrong : ChangeSpec := { name := "lawS1200CAsking", fn := fun _ => fun
  | [d1, d2, d3, d4, d5] => { results := [.lit (.bool false)], args := [d1, d2, d3, d4, d5] }
  | _ => none }
def LawS1200CAskingWrongFalsely : Prop := lawS1200CAskingRow.holds Yba.pinned (OpenSpec.ofChange lawS1200CAskingWrong)

/-- 'tumbler.LawS1200CExtra': WHATEVER THE INPUT: true; the input reads as it did. -/
def lawS1200CExtraSpec : ChangeSpec := { name := "lawS1200CExtra", fn := fun _ => fun
  | [d1, d2, d3] => { results := [.lit (.bool true)], args := [d1, d2, d3] }
  | _ => none }
def lawS1200CExtraRow : OpenClaim := { program := "ybulkxve", sum := "1adb86b2214fd5a358407c099079aa97c769c553bbd1cdb454880b994b856b0c", func := "example.com/tumbler/tumbler.LawS1200CExtra", spec := "lawS1200CExtra", apart := false }
def LawS1200CExtraSaid : Prop := lawS1200CExtraRow.holds Yba.pinned (OpenSpec.ofChange lawS1200CExtraSpec)

/-- ITS FALSE NEIGHBOUR: 'it returns false'. Refute it at one input. -/
def lawS1200CExtraWrong : ChangeSpec := { name := "lawS1200CExtra", fn := fun _ => fun
  | [d1, d2, d3] => { results := [.lit (.bool false)], args := [d1, d2, d3] }
  | _ => none }
def LawS1200CExtraWrongFalsely : Prop := lawS1200CExtraRow.holds Yba.pinned (OpenSpec.ofChange lawS1200CExtraWrong)

end Rows
end Go.Proofs.Ybulkxve
