/-
  No cell of these rows narrows 'for every input' (looked for: loops, veiled, ifaces, maps, wideKeys, modest, calm, conditions, laid).
  DERIVED. THE GIVEN ROWS OF THIS SEAT. 1 by the template 'for every input the law returns true; each argument reads behind the call as it read before'; 0 by the template 'total and deterministic' (their statements: YbulkcgkeTotals.lean).
  GIVEN WITH THE SEED: the statements are not yours to turn. If you find one false, say at which input.
  Laid BY PROGRAM, IN A SANDBOX (cutbox-rows.mjs): the forced cells as the released guide's own fill.sh prints them over the translation 3419ac91a6587e7e… (all of the seat's roots in one cut). By AI agents, Wed Nov 11 2026. No macro, syntax, notation, axiom, sorry.
-/
import Derived.Test.YbulkcgkeChecked
import GoSem.Claim
import GoSem.ClaimJoined
import GoSem.ClaimMapViews
import Derived.JoinedTies
import Derived.KernelRfl
namespace Go.Proofs.Ybulkcgke
/- THE CELL 'sum', in the pinned program and in every row, IS THE sha256 OF THE DUMP (.gsa) THAT YbulkcgkeProg.lean LOADS. Nothing in Lean hashes anything: it is a label: what it is worth is what the hold of that sum in a sandbox is worth. -/
noncomputable def Yba.pinned : Pinned := { name := "ybulkcgke", sum := "3419ac91a6587e7e32079c98c31f1f2e15939c0623ddb126ee496dc757af6dee", checked := Yba.checked }
namespace Rows
def none {H : Type} : Left H := { results := [], args := [] }

/-- 'bully.LawS4125BTerms': WHATEVER THE INPUT: true; the input reads as it did. -/
def lawS4125BTermsSpec : ChangeSpec := { name := "lawS4125BTerms", fn := fun _ => fun
  | [d1, d2, d3, d4, d5, d6] => { results := [.lit (.bool true)], args := [d1, d2, d3, d4, d5, d6] }
  | _ => none }
def lawS4125BTermsRow : OpenClaim := { program := "ybulkcgke", sum := "3419ac91a6587e7e32079c98c31f1f2e15939c0623ddb126ee496dc757af6dee", func := "example.com/hustings/hustings/internal/bully.LawS4125BTerms", spec := "lawS4125BTerms", unfollowed := true, recurses := true, apart := false }
def LawS4125BTermsSaid : Prop := lawS4125BTermsRow.holds Yba.pinned (OpenSpec.ofChange lawS4125BTermsSpec)

/-- ITS FALSE NEIGHBOUR: 'it returns false'. Refute it at one input. -/
def lawS4125BTermsWrong : ChangeSpec := { name := "lawS4125BTerms", fn := fun _ => fun
  | [d1, d2, d3, d4, d5, d6] => { results := [.lit (.bool false)], args := [d1, d2, d3, d4, d5, d6] }
  | _ => none }
def LawS4125BTermsWrongFalsely : Prop := lawS4125BTermsRow.holds Yba.pinned (OpenSpec.ofChange lawS4125BTermsWrong)

end Rows
end Go.Proofs.Ybulkcgke
