/-
  No cell of these rows narrows 'for every input' (looked for: loops, veiled, ifaces, maps, wideKeys, modest, calm, conditions, laid).
  DERIVED. THE GIVEN ROWS OF THIS SEAT. 2 by the template 'for every input the law returns true; each argument reads behind the call as it read before'; 0 by the template 'total and deterministic' (their statements: YbulkcgioTotals.lean).
  GIVEN WITH THE SEED: the statements are not yours to turn. If you find one false, say at which input.
  Laid BY PROGRAM, IN A SANDBOX (cutbox-rows.mjs): the forced cells as the released guide's own fill.sh prints them over the translation 54d7570be6f86937… (all of the seat's roots in one cut). By AI agents, Wed Nov 11 2026. No macro, syntax, notation, axiom, sorry.
-/
import Derived.Test.YbulkcgioChecked
import GoSem.Claim
import GoSem.ClaimJoined
import GoSem.ClaimMapViews
import Derived.JoinedTies
import Derived.KernelRfl
namespace Go.Proofs.Ybulkcgio
/- THE CELL 'sum', in the pinned program and in every row, IS THE sha256 OF THE DUMP (.gsa) THAT YbulkcgioProg.lean LOADS. Nothing in Lean hashes anything: it is a label: what it is worth is what the hold of that sum in a sandbox is worth. -/
noncomputable def Yba.pinned : Pinned := { name := "ybulkcgio", sum := "54d7570be6f8693726a09c861f4cc79be1f36986f9d041b4b46ad14045904300", checked := Yba.checked }
namespace Rows
def none {H : Type} : Left H := { results := [], args := [] }

/-- 'sigtran.LawS4122BModel': WHATEVER THE INPUT: true; the input reads as it did. -/
def lawS4122BModelSpec : ChangeSpec := { name := "lawS4122BModel", fn := fun _ => fun
  | [d] => { results := [.lit (.bool true)], args := [d] }
  | _ => none }
def lawS4122BModelRow : OpenClaim := { program := "ybulkcgio", sum := "54d7570be6f8693726a09c861f4cc79be1f36986f9d041b4b46ad14045904300", func := "example.com/relevo/relevo/internal/sigtran.LawS4122BModel", spec := "lawS4122BModel", named := ["encoding/binary.BigEndian"], apart := false }
def LawS4122BModelSaid : Prop := lawS4122BModelRow.holds Yba.pinned (OpenSpec.ofChange lawS4122BModelSpec)

/-- ITS FALSE NEIGHBOUR: 'it returns false'. Refute it at one input. -/
def lawS4122BModelWrong : ChangeSpec := { name := "lawS4122BModel", fn := fun _ => fun
  | [d] => { results := [.lit (.bool false)], args := [d] }
  | _ => none }
def LawS4122BModelWrongFalsely : Prop := lawS4122BModelRow.holds Yba.pinned (OpenSpec.ofChange lawS4122BModelWrong)

/-- 'sigtran.LawS4122BBuilt': WHATEVER THE INPUT: true; the input reads as it did. -/
def lawS4122BBuiltSpec : ChangeSpec := { name := "lawS4122BBuilt", fn := fun _ => fun
  | [d1, d2, d3, d4] => { results := [.lit (.bool true)], args := [d1, d2, d3, d4] }
  | _ => none }
def lawS4122BBuiltRow : OpenClaim := { program := "ybulkcgio", sum := "54d7570be6f8693726a09c861f4cc79be1f36986f9d041b4b46ad14045904300", func := "example.com/relevo/relevo/internal/sigtran.LawS4122BBuilt", spec := "lawS4122BBuilt", named := ["encoding/binary.BigEndian"], apart := false }
def LawS4122BBuiltSaid : Prop := lawS4122BBuiltRow.holds Yba.pinned (OpenSpec.ofChange lawS4122BBuiltSpec)

/-- ITS FALSE NEIGHBOUR: 'it returns false'. Refute it at one input. -/
def lawS4122BBuiltWrong : ChangeSpec := { name := "lawS4122BBuilt", fn := fun _ => fun
  | [d1, d2, d3, d4] => { results := [.lit (.bool false)], args := [d1, d2, d3, d4] }
  | _ => none }
def LawS4122BBuiltWrongFalsely : Prop := lawS4122BBuiltRow.holds Yba.pinned (OpenSpec.ofChange lawS4122BBuiltWrong)

end Rows
end Go.Proofs.Ybulkcgio
