/-
  No cell of these rows narrows 'for every input' (looked for: loops, veiled, ifaces, maps, wideKeys, modest, calm, conditions, laid).
  DERIVED. THE GIVEN ROWS OF THIS SEAT. 4 by the template 'for every input the law returns true; each argument reads behind the call as it read before'; 0 by the template 'total and deterministic' (their statements: YbulkcggkTotals.lean).
  GIVEN WITH THE SEED: the statements are not yours to turn. If you find one false, say at which input.
  Laid BY PROGRAM, IN A SANDBOX (cutbox-rows.mjs): the forced cells as the released guide's own fill.sh prints them over the translation 4464ab8113f0bd7a… (all of the seat's roots in one cut). By AI agents, Wed Nov 11 2026. No macro, syntax, notation, axiom, sorry.
-/
import Derived.Test.YbulkcggkChecked
import GoSem.Claim
import GoSem.ClaimJoined
import GoSem.ClaimMapViews
import Derived.JoinedTies
import Derived.KernelRfl
namespace Go.Proofs.Ybulkcggk
/- THE CELL 'sum', in the pinned program and in every row, IS THE sha256 OF THE DUMP (.gsa) THAT YbulkcggkProg.lean LOADS. Nothing in Lean hashes anything: it is a label: what it is worth is what the hold of that sum in a sandbox is worth. -/
noncomputable def Yba.pinned : Pinned := { name := "ybulkcggk", sum := "4464ab8113f0bd7ab6ab5d8efb7c76986515044983f316a76fd92fb3b4cc4ac7", checked := Yba.checked }
namespace Rows
def none {H : Type} : Left H := { results := [], args := [] }

/-- 'reachmap.LawS4118AExact': WHATEVER THE INPUT: true; the input reads as it did. -/
def lawS4118AExactSpec : ChangeSpec := { name := "lawS4118AExact", fn := fun _ => fun
  | [d1, d2, d3, d4, d5] => { results := [.lit (.bool true)], args := [d1, d2, d3, d4, d5] }
  | _ => none }
def lawS4118AExactRow : OpenClaim := { program := "ybulkcggk", sum := "4464ab8113f0bd7ab6ab5d8efb7c76986515044983f316a76fd92fb3b4cc4ac7", func := "example.com/reachmap/reachmap.LawS4118AExact", spec := "lawS4118AExact", plainKeys := false, apart := false }
def LawS4118AExactSaid : Prop := lawS4118AExactRow.holds Yba.pinned (OpenSpec.ofChange lawS4118AExactSpec)

/-- ITS FALSE NEIGHBOUR: 'it returns false'. Refute it at one input. -/
def lawS4118AExactWrong : ChangeSpec := { name := "lawS4118AExact", fn := fun _ => fun
  | [d1, d2, d3, d4, d5] => { results := [.lit (.bool false)], args := [d1, d2, d3, d4, d5] }
  | _ => none }
def LawS4118AExactWrongFalsely : Prop := lawS4118AExactRow.holds Yba.pinned (OpenSpec.ofChange lawS4118AExactWrong)

/-- 'reachmap.LawS4118ASplit': WHATEVER THE INPUT: true; the input reads as it did. -/
def lawS4118ASplitSpec : ChangeSpec := { name := "lawS4118ASplit", fn := fun _ => fun
  | [d1, d2, d3, d4] => { results := [.lit (.bool true)], args := [d1, d2, d3, d4] }
  | _ => none }
def lawS4118ASplitRow : OpenClaim := { program := "ybulkcggk", sum := "4464ab8113f0bd7ab6ab5d8efb7c76986515044983f316a76fd92fb3b4cc4ac7", func := "example.com/reachmap/reachmap.LawS4118ASplit", spec := "lawS4118ASplit", plainKeys := false, apart := false }
def LawS4118ASplitSaid : Prop := lawS4118ASplitRow.holds Yba.pinned (OpenSpec.ofChange lawS4118ASplitSpec)

/-- ITS FALSE NEIGHBOUR: 'it returns false'. Refute it at one input. -/
def lawS4118ASplitWrong : ChangeSpec := { name := "lawS4118ASplit", fn := fun _ => fun
  | [d1, d2, d3, d4] => { results := [.lit (.bool false)], args := [d1, d2, d3, d4] }
  | _ => none }
def LawS4118ASplitWrongFalsely : Prop := lawS4118ASplitRow.holds Yba.pinned (OpenSpec.ofChange lawS4118ASplitWrong)

/-- 'reachmap.LawS4118CMapBranch': WHATEVER THE INPUT: true; the input reads as it did. -/
def lawS4118CMapBranchSpec : ChangeSpec := { name := "lawS4118CMapBranch", fn := fun _ => fun
  | [d1, d2, d3] => { results := [.lit (.bool true)], args := [d1, d2, d3] }
  | _ => none }
def lawS4118CMapBranchRow : OpenClaim := { program := "ybulkcggk", sum := "4464ab8113f0bd7ab6ab5d8efb7c76986515044983f316a76fd92fb3b4cc4ac7", func := "example.com/reachmap/reachmap.LawS4118CMapBranch", spec := "lawS4118CMapBranch", unfollowed := true, recurses := true, named := ["encoding/binary.BigEndian"], plainKeys := false, apart := false }
def LawS4118CMapBranchSaid : Prop := lawS4118CMapBranchRow.holds Yba.pinned (OpenSpec.ofChange lawS4118CMapBranchSpec)

/-- ITS FALSE NEIGHBOUR: 'it returns false'. Refute it at one input. -/
def lawS4118CMapBranchWrong : ChangeSpec := { name := "lawS4118CMapBranch", fn := fun _ => fun
  | [d1, d2, d3] => { results := [.lit (.bool false)], args := [d1, d2, d3] }
  | _ => none }
def LawS4118CMapBranchWrongFalsely : Prop := lawS4118CMapBranchRow.holds Yba.pinned (OpenSpec.ofChange lawS4118CMapBranchWrong)

/-- 'reachmap.LawS4118CLookupBranch': WHATEVER THE INPUT: true; the input reads as it did. -/
def lawS4118CLookupBranchSpec : ChangeSpec := { name := "lawS4118CLookupBranch", fn := fun _ => fun
  | [d1, d2] => { results := [.lit (.bool true)], args := [d1, d2] }
  | _ => none }
def lawS4118CLookupBranchRow : OpenClaim := { program := "ybulkcggk", sum := "4464ab8113f0bd7ab6ab5d8efb7c76986515044983f316a76fd92fb3b4cc4ac7", func := "example.com/reachmap/reachmap.LawS4118CLookupBranch", spec := "lawS4118CLookupBranch", unfollowed := true, recurses := true, named := ["encoding/binary.BigEndian"], plainKeys := false, apart := false }
def LawS4118CLookupBranchSaid : Prop := lawS4118CLookupBranchRow.holds Yba.pinned (OpenSpec.ofChange lawS4118CLookupBranchSpec)

/-- ITS FALSE NEIGHBOUR: 'it returns false'. Refute it at one input. -/
def lawS4118CLookupBranchWrong : ChangeSpec := { name := "lawS4118CLookupBranch", fn := fun _ => fun
  | [d1, d2] => { results := [.lit (.bool false)], args := [d1, d2] }
  | _ => none }
def LawS4118CLookupBranchWrongFalsely : Prop := lawS4118CLookupBranchRow.holds Yba.pinned (OpenSpec.ofChange lawS4118CLookupBranchWrong)

end Rows
end Go.Proofs.Ybulkcggk
