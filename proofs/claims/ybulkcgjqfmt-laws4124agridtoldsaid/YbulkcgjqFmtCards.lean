/-
  DERIVED. GIVEN WITH THE SEED: THE CARDS: each row of YbulkcgjqFmtRows.lean that lists a variable, with what it lists TIED to the program's text (the seventh form; the later family's looks); each row that meets fmt, with fmt's text TOLD by the authors' own Lean function (tested against real Go, not proved from fmt's source: count such statements apart). THE CARD IS WHAT COUNTS. Prove the row's statement (the work); the ties are given (YbulkcgjqFmtTie.lean); close each card by the builder's one call (the guide's Derived/Test/ToyasCard.lean, 'card_holds'). Laid BY PROGRAM, IN A SANDBOX (cutbox-door.mjs). By AI agents, Wed Nov 11 2026. No macro, syntax, notation, axiom, sorry.
-/
import Derived.Test.YbulkcgjqFmtRows
import GoSem.ClaimSeven
namespace Go.Proofs.YbulkcgjqFmt
namespace Rows

/-- THE TOLD AND TIED CARD OF 'seamline.LawS4124AGrid'. -/
def lawS4124AGridCard : Claim7 := { stood := { row := lawS4124AGridRow, standIns := [], harness := (true, "59ba47a56b720af0eb0ccc5210145135b8a1281256f42de0e2769eb8f76a4d69"), looks := true }, told := true, laidByText := true, laidKinds := [.data, .data, .data, .widerDeep], laidTests := true, laidLooks := .later, goes := false }
def LawS4124AGridToldSaid : Prop := Claim7.holds Ybaf.pinned (.plain (OpenSpec.ofChange lawS4124AGridSpec)) lawS4124AGridCard
/-- ITS FALSE NEIGHBOUR. Refute it at one input. -/
def LawS4124AGridToldWrongFalsely : Prop := Claim7.holds Ybaf.pinned (.plain (OpenSpec.ofChange lawS4124AGridWrong)) lawS4124AGridCard

/-- THE TOLD AND TIED CARD OF 'seamline.LawS4124ARefuses'. -/
def lawS4124ARefusesCard : Claim7 := { stood := { row := lawS4124ARefusesRow, standIns := [], harness := (true, "59ba47a56b720af0eb0ccc5210145135b8a1281256f42de0e2769eb8f76a4d69"), looks := true }, told := true, laidByText := true, laidKinds := [.data, .data, .data, .widerDeep], laidTests := true, laidLooks := .later, goes := false }
def LawS4124ARefusesToldSaid : Prop := Claim7.holds Ybaf.pinned (.plain (OpenSpec.ofChange lawS4124ARefusesSpec)) lawS4124ARefusesCard
/-- ITS FALSE NEIGHBOUR. Refute it at one input. -/
def LawS4124ARefusesToldWrongFalsely : Prop := Claim7.holds Ybaf.pinned (.plain (OpenSpec.ofChange lawS4124ARefusesWrong)) lawS4124ARefusesCard

/-- THE TOLD AND TIED CARD OF 'seamline.LawS4124BSizes'. -/
def lawS4124BSizesCard : Claim7 := { stood := { row := lawS4124BSizesRow, standIns := [], harness := (true, "59ba47a56b720af0eb0ccc5210145135b8a1281256f42de0e2769eb8f76a4d69"), looks := true }, told := true, laidByText := true, laidKinds := [.widerDeep], laidTests := true, laidLooks := .later, goes := false }
def LawS4124BSizesToldSaid : Prop := Claim7.holds Ybaf.pinned (.plain (OpenSpec.ofChange lawS4124BSizesSpec)) lawS4124BSizesCard
/-- ITS FALSE NEIGHBOUR. Refute it at one input. -/
def LawS4124BSizesToldWrongFalsely : Prop := Claim7.holds Ybaf.pinned (.plain (OpenSpec.ofChange lawS4124BSizesWrong)) lawS4124BSizesCard

/-- THE TOLD AND TIED CARD OF 'gmsh.LawS4124CModel'. -/
def lawS4124CModelCard : Claim7 := { stood := { row := lawS4124CModelRow, standIns := [], harness := (true, "59ba47a56b720af0eb0ccc5210145135b8a1281256f42de0e2769eb8f76a4d69"), looks := true }, told := true, laidByText := true, laidKinds := [.data, .data, .data, .data, .sentinel, .sentinel, .pinned, .pinned, .pinned, .pinned, .pinned, .pinned], laidTests := true, laidLooks := .later, goes := false }
def LawS4124CModelToldSaid : Prop := Claim7.holds Ybaf.pinned (.plain (OpenSpec.ofChange lawS4124CModelSpec)) lawS4124CModelCard
/-- ITS FALSE NEIGHBOUR. Refute it at one input. -/
def LawS4124CModelToldWrongFalsely : Prop := Claim7.holds Ybaf.pinned (.plain (OpenSpec.ofChange lawS4124CModelWrong)) lawS4124CModelCard

/-- THE TOLD AND TIED CARD OF 'gmsh.LawS4124CPair'. -/
def lawS4124CPairCard : Claim7 := { stood := { row := lawS4124CPairRow, standIns := [], harness := (true, "59ba47a56b720af0eb0ccc5210145135b8a1281256f42de0e2769eb8f76a4d69"), looks := true }, told := true, laidByText := true, laidKinds := [.data, .data, .data, .data, .sentinel, .sentinel, .pinned, .pinned, .pinned, .pinned, .pinned, .pinned], laidTests := true, laidLooks := .later, goes := false }
def LawS4124CPairToldSaid : Prop := Claim7.holds Ybaf.pinned (.plain (OpenSpec.ofChange lawS4124CPairSpec)) lawS4124CPairCard
/-- ITS FALSE NEIGHBOUR. Refute it at one input. -/
def LawS4124CPairToldWrongFalsely : Prop := Claim7.holds Ybaf.pinned (.plain (OpenSpec.ofChange lawS4124CPairWrong)) lawS4124CPairCard
end Rows
end Go.Proofs.YbulkcgjqFmt
