/-
  DERIVED. GIVEN WITH THE SEED: THE CARDS: each row of YbulktymFmtRows.lean that lists a variable, with what it lists TIED to the program's text (the seventh form; the later family's looks); each row that meets fmt, with fmt's text TOLD by the authors' own Lean function (tested against real Go, not proved from fmt's source: count such statements apart). THE CARD IS WHAT COUNTS. Prove the row's statement (the work); the ties are given (YbulktymFmtTie.lean); close each card by the builder's one call (the guide's Derived/Test/ToyasCard.lean, 'card_holds'). Laid BY PROGRAM, IN A SANDBOX (cutbox-door.mjs). By AI agents, Wed Nov 11 2026. No macro, syntax, notation, axiom, sorry.
-/
import Derived.Test.YbulktymFmtRows
import GoSem.ClaimSeven
namespace Go.Proofs.YbulktymFmt
namespace Rows

/-- THE TOLD CARD OF 'mtp3.LawS1013BExact'. -/
def lawS1013BExactCard : Claim7 := { stood := { row := lawS1013BExactRow, standIns := [], harness := (true, "c21c8cd1d6d3e317ac660ce5dbb63468d9f1a9b15659fad7368149cfa055159f"), looks := false }, told := true, goes := false }
def LawS1013BExactToldSaid : Prop := Claim7.holds Ybaf.pinned (.plain (OpenSpec.ofChange lawS1013BExactSpec)) lawS1013BExactCard
/-- ITS FALSE NEIGHBOUR. Refute it at one input. -/
def LawS1013BExactToldWrongFalsely : Prop := Claim7.holds Ybaf.pinned (.plain (OpenSpec.ofChange lawS1013BExactWrong)) lawS1013BExactCard
end Rows
end Go.Proofs.YbulktymFmt
