/-
  DERIVED. GIVEN WITH THE SEED: THE CARDS: each row of YbulkcgioFmtRows.lean that lists a variable, with what it lists TIED to the program's text (the seventh form; the later family's looks); each row that meets fmt, with fmt's text TOLD by the authors' own Lean function (tested against real Go, not proved from fmt's source: count such statements apart). THE CARD IS WHAT COUNTS. Prove the row's statement (the work); the ties are given (YbulkcgioFmtTie.lean); close each card by the builder's one call (the guide's Derived/Test/ToyasCard.lean, 'card_holds'). Laid BY PROGRAM, IN A SANDBOX (cutbox-door.mjs). By AI agents, Wed Nov 11 2026. No macro, syntax, notation, axiom, sorry.
-/
import Derived.Test.YbulkcgioFmtRows
import GoSem.ClaimSeven
namespace Go.Proofs.YbulkcgioFmt
namespace Rows

/-- THE TOLD AND TIED CARD OF 'capture.LawS4122CReadData'. -/
def lawS4122CReadDataCard : Claim7 := { stood := { row := lawS4122CReadDataRow, standIns := [], harness := (true, "44c2e5511f11ce0852c18652475f3bfdb3ba026225a43d1bbbbd3a3eddf24327"), looks := true }, told := true, laidByText := true, laidKinds := [.sentinel, .sentinel, .sentinel], laidTests := true, laidLooks := .later, goes := false }
def LawS4122CReadDataToldSaid : Prop := Claim7.holds Ybaf.pinned (.plain (OpenSpec.ofChange lawS4122CReadDataSpec)) lawS4122CReadDataCard
/-- ITS FALSE NEIGHBOUR. Refute it at one input. -/
def LawS4122CReadDataToldWrongFalsely : Prop := Claim7.holds Ybaf.pinned (.plain (OpenSpec.ofChange lawS4122CReadDataWrong)) lawS4122CReadDataCard
end Rows
end Go.Proofs.YbulkcgioFmt
