/-
  NARROWER THAN 'FOR EVERY INPUT', by the rows' own cells (each row's printed sentence says how): LawS4122CReadData: laid.
  DERIVED. THE GIVEN ROWS OF THIS SEAT. 1 by the template 'for every input the law returns true; each argument reads behind the call as it read before'; 0 by the template 'total and deterministic' (their statements: YbulkcgioFmtTotals.lean).
  GIVEN WITH THE SEED: the statements are not yours to turn. If you find one false, say at which input.
  Laid BY PROGRAM, IN A SANDBOX (cutbox-rows.mjs): the forced cells as the released guide's own fill.sh prints them over the translation b9192af1758f1d4c… (all of the seat's roots in one cut). By AI agents, Wed Nov 11 2026. No macro, syntax, notation, axiom, sorry.
-/
import Derived.Test.YbulkcgioFmtChecked
import GoSem.Claim
import GoSem.ClaimJoined
import GoSem.ClaimMapViews
import Derived.JoinedTies
import Derived.KernelRfl
namespace Go.Proofs.YbulkcgioFmt
/- THE CELL 'sum', in the pinned program and in every row, IS THE sha256 OF THE DUMP (.gsa) THAT YbulkcgioFmtProg.lean LOADS. Nothing in Lean hashes anything: it is a label: what it is worth is what the hold of that sum in a sandbox is worth. -/
noncomputable def Ybaf.pinned : Pinned := { name := "ybulkcgiofmt", sum := "b9192af1758f1d4ce94e15b5e7f7de127357138766ed64d8c908022bad28ca73", checked := Ybaf.checked }
namespace Rows
def none {H : Type} : Left H := { results := [], args := [] }

/- WHAT THE LISTED PACKAGE-LEVEL VARIABLES READ AS WHEN THE CALL BEGINS. Each datum BY PROGRAM (the guide's laid-datum.mjs) off the statement by which the dump's own 'gosem.cut.vars' lays the variable. In a bare row this is a premise. The card (YbulkcgioFmtCards.lean) ties it to the program's text. -/
def laid_io_ErrShortBuffer {H : Type} : DataW H := .iface "*errors.errorString" (.ptr (.agg [.lit (.string [115, 104, 111, 114, 116, 32, 98, 117, 102, 102, 101, 114])]))
def laid_io_EOF {H : Type} : DataW H := .iface "*errors.errorString" (.ptr (.agg [.lit (.string [69, 79, 70])]))
def laid_io_ErrUnexpectedEOF {H : Type} : DataW H := .iface "*errors.errorString" (.ptr (.agg [.lit (.string [117, 110, 101, 120, 112, 101, 99, 116, 101, 100, 32, 69, 79, 70])]))

/-- 'capture.LawS4122CReadData': WHATEVER THE INPUT: true; the input reads as it did. -/
def lawS4122CReadDataSpec : ChangeSpec := { name := "lawS4122CReadData", fn := fun _ => fun
  | [d1, d2, d3, d4] => { results := [.lit (.bool true)], args := [d1, d2, d3, d4] }
  | _ => none }
def lawS4122CReadDataRow : OpenClaim := { program := "ybulkcgiofmt", sum := "b9192af1758f1d4ce94e15b5e7f7de127357138766ed64d8c908022bad28ca73", func := "example.com/relevo/relevo/internal/capture.LawS4122CReadData", spec := "lawS4122CReadData", stops := ["fmt.errorf"], inPlace := ["fmt.errorf"], unfollowed := true, recurses := true, named := ["io.ErrUnexpectedEOF", "io.EOF", "io.ErrShortBuffer"], apart := false, laid := [("io.ErrShortBuffer", laid_io_ErrShortBuffer), ("io.EOF", laid_io_EOF), ("io.ErrUnexpectedEOF", laid_io_ErrUnexpectedEOF)] }
/-- NO THEOREM (fmt's text is open here; it may be false): for the released tool's asking of the row's closed facts alone. THE STATEMENT IS 'LawS4122CReadDataToldSaid' (YbulkcgioFmtCards.lean). -/
def LawS4122CReadDataFormAsk : Prop := lawS4122CReadDataRow.holds Ybaf.pinned (OpenSpec.ofChange lawS4122CReadDataSpec)

/-- ITS FALSE NEIGHBOUR: 'it returns false'. Refute it at one input. -/
def lawS4122CReadDataWrong : ChangeSpec := { name := "lawS4122CReadData", fn := fun _ => fun
  | [d1, d2, d3, d4] => { results := [.lit (.bool false)], args := [d1, d2, d3, d4] }
  | _ => none }
def LawS4122CReadDataWrongFormAsk : Prop := lawS4122CReadDataRow.holds Ybaf.pinned (OpenSpec.ofChange lawS4122CReadDataWrong)

end Rows
end Go.Proofs.YbulkcgioFmt
