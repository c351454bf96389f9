/-
  No cell of these rows narrows 'for every input' (looked for: loops, veiled, ifaces, maps, wideKeys, modest, calm, conditions, laid).
  DERIVED. THE GIVEN ROWS OF THIS SEAT. 2 by the template 'for every input the law returns true; each argument reads behind the call as it read before'; 0 by the template 'total and deterministic' (their statements: YbulktsoTotals.lean).
  GIVEN WITH THE SEED: the statements are not yours to turn. If you find one false, say at which input.
  Laid BY PROGRAM, IN A SANDBOX (cutbox-rows.mjs): the forced cells as the released guide's own fill.sh prints them over the translation d8336e24b1c7ef6a… (all of the seat's roots in one cut). By AI agents, Wed Nov 11 2026. No macro, syntax, notation, axiom, sorry.
-/
import Derived.Test.YbulktsoChecked
import GoSem.Claim
import GoSem.ClaimJoined
import GoSem.ClaimMapViews
import Derived.JoinedTies
import Derived.KernelRfl
namespace Go.Proofs.Ybulktso
/- THE CELL 'sum', in the pinned program and in every row, IS THE sha256 OF THE DUMP (.gsa) THAT YbulktsoProg.lean LOADS. Nothing in Lean hashes anything: it is a label: what it is worth is what the hold of that sum in a sandbox is worth. -/
noncomputable def Yba.pinned : Pinned := { name := "ybulktso", sum := "d8336e24b1c7ef6a9c8b8248d66d3b3de70ee2c8a6b4fc1e8ee1b50bf6b95c32", checked := Yba.checked }
namespace Rows
def none {H : Type} : Left H := { results := [], args := [] }

/-- 'dicecast.LawS1002AExact': WHATEVER THE INPUT: true; the input reads as it did. -/
def lawS1002AExactSpec : ChangeSpec := { name := "lawS1002AExact", fn := fun _ => fun
  | [d1, d2, d3] => { results := [.lit (.bool true)], args := [d1, d2, d3] }
  | _ => none }
def lawS1002AExactRow : OpenClaim := { program := "ybulktso", sum := "d8336e24b1c7ef6a9c8b8248d66d3b3de70ee2c8a6b4fc1e8ee1b50bf6b95c32", func := "example.com/dicecast/dicecast.LawS1002AExact", spec := "lawS1002AExact", apart := false }
def LawS1002AExactSaid : Prop := lawS1002AExactRow.holds Yba.pinned (OpenSpec.ofChange lawS1002AExactSpec)

/-- ITS FALSE NEIGHBOUR: 'it returns false'. Refute it at one input. -/
def lawS1002AExactWrong : ChangeSpec := { name := "lawS1002AExact", fn := fun _ => fun
  | [d1, d2, d3] => { results := [.lit (.bool false)], args := [d1, d2, d3] }
  | _ => none }
def LawS1002AExactWrongFalsely : Prop := lawS1002AExactRow.holds Yba.pinned (OpenSpec.ofChange lawS1002AExactWrong)

/-- 'dicecast.LawS1002ABatchFits': WHATEVER THE INPUT: true; the input reads as it did. -/
def lawS1002ABatchFitsSpec : ChangeSpec := { name := "lawS1002ABatchFits", fn := fun _ => fun
  | [d] => { results := [.lit (.bool true)], args := [d] }
  | _ => none }
def lawS1002ABatchFitsRow : OpenClaim := { program := "ybulktso", sum := "d8336e24b1c7ef6a9c8b8248d66d3b3de70ee2c8a6b4fc1e8ee1b50bf6b95c32", func := "example.com/dicecast/dicecast.LawS1002ABatchFits", spec := "lawS1002ABatchFits", apart := false }
def LawS1002ABatchFitsSaid : Prop := lawS1002ABatchFitsRow.holds Yba.pinned (OpenSpec.ofChange lawS1002ABatchFitsSpec)

/-- ITS FALSE NEIGHBOUR: 'it returns false'. Refute it at one input. -/
def lawS1002ABatchFitsWrong : ChangeSpec := { name := "lawS1002ABatchFits", fn := fun _ => fun
  | [d] => { results := [.lit (.bool false)], args := [d] }
  | _ => none }
def LawS1002ABatchFitsWrongFalsely : Prop := lawS1002ABatchFitsRow.holds Yba.pinned (OpenSpec.ofChange lawS1002ABatchFitsWrong)

end Rows
end Go.Proofs.Ybulktso
