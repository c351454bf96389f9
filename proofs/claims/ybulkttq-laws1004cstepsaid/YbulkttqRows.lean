/-
  No cell of these rows narrows 'for every input' (looked for: loops, veiled, ifaces, maps, wideKeys, modest, calm, conditions, laid).
  DERIVED. THE GIVEN ROWS OF THIS SEAT. 2 by the template 'for every input the law returns true; each argument reads behind the call as it read before'; 0 by the template 'total and deterministic' (their statements: YbulkttqTotals.lean).
  GIVEN WITH THE SEED: the statements are not yours to turn. If you find one false, say at which input.
  Laid BY PROGRAM, IN A SANDBOX (cutbox-rows.mjs): the forced cells as the released guide's own fill.sh prints them over the translation bfe978c27915c786… (all of the seat's roots in one cut). By AI agents, Wed Nov 11 2026. No macro, syntax, notation, axiom, sorry.
-/
import Derived.Test.YbulkttqChecked
import GoSem.Claim
import GoSem.ClaimJoined
import GoSem.ClaimMapViews
import Derived.JoinedTies
import Derived.KernelRfl
namespace Go.Proofs.Ybulkttq
/- THE CELL 'sum', in the pinned program and in every row, IS THE sha256 OF THE DUMP (.gsa) THAT YbulkttqProg.lean LOADS. Nothing in Lean hashes anything: it is a label: what it is worth is what the hold of that sum in a sandbox is worth. -/
noncomputable def Yba.pinned : Pinned := { name := "ybulkttq", sum := "bfe978c27915c786f88fddd277ce209ef3d17a2ca2d9f1ac3e6e646a0ecf5fc9", checked := Yba.checked }
namespace Rows
def none {H : Type} : Left H := { results := [], args := [] }

/-- 'lockwright.LawS1004CStep': WHATEVER THE INPUT: true; the input reads as it did. -/
def lawS1004CStepSpec : ChangeSpec := { name := "lawS1004CStep", fn := fun _ => fun
  | [d1, d2, d3] => { results := [.lit (.bool true)], args := [d1, d2, d3] }
  | _ => none }
def lawS1004CStepRow : OpenClaim := { program := "ybulkttq", sum := "bfe978c27915c786f88fddd277ce209ef3d17a2ca2d9f1ac3e6e646a0ecf5fc9", func := "example.com/lockwright/lockwright.LawS1004CStep", spec := "lawS1004CStep", apart := false }
def LawS1004CStepSaid : Prop := lawS1004CStepRow.holds Yba.pinned (OpenSpec.ofChange lawS1004CStepSpec)

/-- ITS FALSE NEIGHBOUR: 'it returns false'. Refute it at one input. -/
def lawS1004CStepWrong : ChangeSpec := { name := "lawS1004CStep", fn := fun _ => fun
  | [d1, d2, d3] => { results := [.lit (.bool false)], args := [d1, d2, d3] }
  | _ => none }
def LawS1004CStepWrongFalsely : Prop := lawS1004CStepRow.holds Yba.pinned (OpenSpec.ofChange lawS1004CStepWrong)

/-- 'lockwright.LawS1004CRing': WHATEVER THE INPUT: true; the input reads as it did. -/
def lawS1004CRingSpec : ChangeSpec := { name := "lawS1004CRing", fn := fun _ => fun
  | [d1, d2] => { results := [.lit (.bool true)], args := [d1, d2] }
  | _ => none }
def lawS1004CRingRow : OpenClaim := { program := "ybulkttq", sum := "bfe978c27915c786f88fddd277ce209ef3d17a2ca2d9f1ac3e6e646a0ecf5fc9", func := "example.com/lockwright/lockwright.LawS1004CRing", spec := "lawS1004CRing", apart := false }
def LawS1004CRingSaid : Prop := lawS1004CRingRow.holds Yba.pinned (OpenSpec.ofChange lawS1004CRingSpec)

/-- ITS FALSE NEIGHBOUR: 'it returns false'. Refute it at one input. -/
def lawS1004CRingWrong : ChangeSpec := { name := "lawS1004CRing", fn := fun _ => fun
  | [d1, d2] => { results := [.lit (.bool false)], args := [d1, d2] }
  | _ => none }
def LawS1004CRingWrongFalsely : Prop := lawS1004CRingRow.holds Yba.pinned (OpenSpec.ofChange lawS1004CRingWrong)

end Rows
end Go.Proofs.Ybulkttq
