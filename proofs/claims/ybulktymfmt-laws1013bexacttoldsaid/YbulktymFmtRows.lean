/-
  No cell of these rows narrows 'for every input' (looked for: loops, veiled, ifaces, maps, wideKeys, modest, calm, conditions, laid).
  DERIVED. THE GIVEN ROWS OF THIS SEAT. 1 by the template 'for every input the law returns true; each argument reads behind the call as it read before'; 0 by the template 'total and deterministic' (their statements: YbulktymFmtTotals.lean).
  GIVEN WITH THE SEED: the statements are not yours to turn. If you find one false, say at which input.
  Laid BY PROGRAM, IN A SANDBOX (cutbox-rows.mjs): the forced cells as the released guide's own fill.sh prints them over the translation 027011c0191c3946… (all of the seat's roots in one cut). By AI agents, Wed Nov 11 2026. No macro, syntax, notation, axiom, sorry.
-/
import Derived.Test.YbulktymFmtChecked
import GoSem.Claim
import GoSem.ClaimJoined
import GoSem.ClaimMapViews
import Derived.JoinedTies
import Derived.KernelRfl
namespace Go.Proofs.YbulktymFmt
/- THE CELL 'sum', in the pinned program and in every row, IS THE sha256 OF THE DUMP (.gsa) THAT YbulktymFmtProg.lean LOADS. Nothing in Lean hashes anything: it is a label: what it is worth is what the hold of that sum in a sandbox is worth. -/
noncomputable def Ybaf.pinned : Pinned := { name := "ybulktymfmt", sum := "027011c0191c394654c65823a64a623778cac509611c7b135567611466b9451c", checked := Ybaf.checked }
namespace Rows
def none {H : Type} : Left H := { results := [], args := [] }

/-- 'mtp3.LawS1013BExact': WHATEVER THE INPUT: true; the input reads as it did. -/
def lawS1013BExactSpec : ChangeSpec := { name := "lawS1013BExact", fn := fun _ => fun
  | [d1, d2, d3] => { results := [.lit (.bool true)], args := [d1, d2, d3] }
  | _ => none }
def lawS1013BExactRow : OpenClaim := { program := "ybulktymfmt", sum := "027011c0191c394654c65823a64a623778cac509611c7b135567611466b9451c", func := "example.com/trunkwire/trunkwire/mtp3.LawS1013BExact", spec := "lawS1013BExact", stops := ["fmt.errorf"], inPlace := ["fmt.errorf"], apart := false }
/-- NO THEOREM (fmt's text is open here; it may be false): for the released tool's asking of the row's closed facts alone. THE STATEMENT IS 'LawS1013BExactToldSaid' (YbulktymFmtCards.lean). -/
def LawS1013BExactFormAsk : Prop := lawS1013BExactRow.holds Ybaf.pinned (OpenSpec.ofChange lawS1013BExactSpec)

/-- ITS FALSE NEIGHBOUR: 'it returns false'. Refute it at one input. -/
def lawS1013BExactWrong : ChangeSpec := { name := "lawS1013BExact", fn := fun _ => fun
  | [d1, d2, d3] => { results := [.lit (.bool false)], args := [d1, d2, d3] }
  | _ => none }
def LawS1013BExactWrongFormAsk : Prop := lawS1013BExactRow.holds Ybaf.pinned (OpenSpec.ofChange lawS1013BExactWrong)

end Rows
end Go.Proofs.YbulktymFmt
