/-
  No cell of these rows narrows 'for every input' (looked for: loops, veiled, ifaces, maps, wideKeys, modest, calm, conditions, laid).
  DERIVED. THE GIVEN ROWS OF THIS SEAT. 2 by the template 'for every input the law returns true; each argument reads behind the call as it read before'; 0 by the template 'total and deterministic' (their statements: YbulktwiTotals.lean).
  GIVEN WITH THE SEED: the statements are not yours to turn. If you find one false, say at which input.
  Laid BY PROGRAM, IN A SANDBOX (cutbox-rows.mjs): the forced cells as the released guide's own fill.sh prints them over the translation 354ac53d7447aa66… (all of the seat's roots in one cut). By AI agents, Wed Nov 11 2026. No macro, syntax, notation, axiom, sorry.
-/
import Derived.Test.YbulktwiChecked
import GoSem.Claim
import GoSem.ClaimJoined
import GoSem.ClaimMapViews
import Derived.JoinedTies
import Derived.KernelRfl
namespace Go.Proofs.Ybulktwi
/- THE CELL 'sum', in the pinned program and in every row, IS THE sha256 OF THE DUMP (.gsa) THAT YbulktwiProg.lean LOADS. Nothing in Lean hashes anything: it is a label: what it is worth is what the hold of that sum in a sandbox is worth. -/
noncomputable def Yba.pinned : Pinned := { name := "ybulktwi", sum := "354ac53d7447aa66c551328681500dccadbc1d3fa71396b1ad0837323c64eaf6", checked := Yba.checked }
namespace Rows
def none {H : Type} : Left H := { results := [], args := [] }

/-- 'acme.LawS1009AModel': WHATEVER THE INPUT: true; the input reads as it did. -/
def lawS1009AModelSpec : ChangeSpec := { name := "lawS1009AModel", fn := fun _ => fun
  | [d1, d2, d3, d4, d5, d6] => { results := [.lit (.bool true)], args := [d1, d2, d3, d4, d5, d6] }
  | _ => none }
def lawS1009AModelRow : OpenClaim := { program := "ybulktwi", sum := "354ac53d7447aa66c551328681500dccadbc1d3fa71396b1ad0837323c64eaf6", func := "example.com/keyvouch/keyvouch/acme.LawS1009AModel", spec := "lawS1009AModel", apart := false }
def LawS1009AModelSaid : Prop := lawS1009AModelRow.holds Yba.pinned (OpenSpec.ofChange lawS1009AModelSpec)

/-- ITS FALSE NEIGHBOUR: 'it returns false'. Refute it at one input. -/
def lawS1009AModelWrong : ChangeSpec := { name := "lawS1009AModel", fn := fun _ => fun
  | [d1, d2, d3, d4, d5, d6] => { results := [.lit (.bool false)], args := [d1, d2, d3, d4, d5, d6] }
  | _ => none }
def LawS1009AModelWrongFalsely : Prop := lawS1009AModelRow.holds Yba.pinned (OpenSpec.ofChange lawS1009AModelWrong)

/-- 'acme.LawS1009AStaysClosed': WHATEVER THE INPUT: true; the input reads as it did. -/
def lawS1009AStaysClosedSpec : ChangeSpec := { name := "lawS1009AStaysClosed", fn := fun _ => fun
  | [d1, d2, d3, d4, d5, d6, d7] => { results := [.lit (.bool true)], args := [d1, d2, d3, d4, d5, d6, d7] }
  | _ => none }
def lawS1009AStaysClosedRow : OpenClaim := { program := "ybulktwi", sum := "354ac53d7447aa66c551328681500dccadbc1d3fa71396b1ad0837323c64eaf6", func := "example.com/keyvouch/keyvouch/acme.LawS1009AStaysClosed", spec := "lawS1009AStaysClosed", apart := false }
def LawS1009AStaysClosedSaid : Prop := lawS1009AStaysClosedRow.holds Yba.pinned (OpenSpec.ofChange lawS1009AStaysClosedSpec)

/-- ITS FALSE NEIGHBOUR: 'it returns false'. Refute it at one input. -/
def lawS1009AStaysClosedWrong : ChangeSpec := { name := "lawS1009AStaysClosed", fn := fun _ => fun
  | [d1, d2, d3, d4, d5, d6, d7] => { results := [.lit (.bool false)], args := [d1, d2, d3, d4, d5, d6, d7] }
  | _ => none }
def LawS1009AStaysClosedWrongFalsely : Prop := lawS1009AStaysClosedRow.holds Yba.pinned (OpenSpec.ofChange lawS1009AStaysClosedWrong)

end Rows
end Go.Proofs.Ybulktwi
