/-
  NARROWER THAN 'FOR EVERY INPUT', by the rows' own cells (each row's printed sentence says how): LawS4124AGrid: laid · LawS4124ARefuses: laid · LawS4124BSizes: laid · LawS4124CModel: laid · LawS4124CPair: laid.
  DERIVED. THE GIVEN ROWS OF THIS SEAT. 5 by the template 'for every input the law returns true; each argument reads behind the call as it read before'; 0 by the template 'total and deterministic' (their statements: YbulkcgjqFmtTotals.lean).
  GIVEN WITH THE SEED: the statements are not yours to turn. If you find one false, say at which input.
  Laid BY PROGRAM, IN A SANDBOX (cutbox-rows.mjs): the forced cells as the released guide's own fill.sh prints them over the translation f67e90e7ac48fad0… (all of the seat's roots in one cut). By AI agents, Wed Nov 11 2026. No macro, syntax, notation, axiom, sorry.
-/
import Derived.Test.YbulkcgjqFmtChecked
import GoSem.PinnedTables
import GoSem.Claim
import GoSem.ClaimJoined
import GoSem.ClaimMapViews
import Derived.JoinedTies
import Derived.KernelRfl
namespace Go.Proofs.YbulkcgjqFmt
/- THE CELL 'sum', in the pinned program and in every row, IS THE sha256 OF THE DUMP (.gsa) THAT YbulkcgjqFmtProg.lean LOADS. Nothing in Lean hashes anything: it is a label: what it is worth is what the hold of that sum in a sandbox is worth. -/
noncomputable def Ybaf.pinned : Pinned := { name := "ybulkcgjqfmt", sum := "f67e90e7ac48fad0d1676decd53bf66feca791e8a48bcc0504642338dfa3a742", checked := Ybaf.checked }
namespace Rows
def none {H : Type} : Left H := { results := [], args := [] }

/- WHAT THE LISTED PACKAGE-LEVEL VARIABLES READ AS WHEN THE CALL BEGINS. Each datum BY PROGRAM (the guide's laid-datum.mjs) off the statement by which the dump's own 'gosem.cut.vars' lays the variable. In a bare row this is a premise. The card (YbulkcgjqFmtCards.lean) ties it to the program's text. -/
def laid_math_bits_deBruijn32tab {H : Type} : DataW H := .agg [.lit (.int .u8 0), .lit (.int .u8 1), .lit (.int .u8 28), .lit (.int .u8 2), .lit (.int .u8 29), .lit (.int .u8 14), .lit (.int .u8 24), .lit (.int .u8 3), .lit (.int .u8 30), .lit (.int .u8 22), .lit (.int .u8 20), .lit (.int .u8 15), .lit (.int .u8 25), .lit (.int .u8 17), .lit (.int .u8 4), .lit (.int .u8 8), .lit (.int .u8 31), .lit (.int .u8 27), .lit (.int .u8 13), .lit (.int .u8 23), .lit (.int .u8 21), .lit (.int .u8 19), .lit (.int .u8 16), .lit (.int .u8 7), .lit (.int .u8 26), .lit (.int .u8 12), .lit (.int .u8 18), .lit (.int .u8 6), .lit (.int .u8 11), .lit (.int .u8 5), .lit (.int .u8 10), .lit (.int .u8 9)]
def laid_math_bits_deBruijn64tab {H : Type} : DataW H := .agg [.lit (.int .u8 0), .lit (.int .u8 1), .lit (.int .u8 56), .lit (.int .u8 2), .lit (.int .u8 57), .lit (.int .u8 49), .lit (.int .u8 28), .lit (.int .u8 3), .lit (.int .u8 61), .lit (.int .u8 58), .lit (.int .u8 42), .lit (.int .u8 50), .lit (.int .u8 38), .lit (.int .u8 29), .lit (.int .u8 17), .lit (.int .u8 4), .lit (.int .u8 62), .lit (.int .u8 47), .lit (.int .u8 59), .lit (.int .u8 36), .lit (.int .u8 45), .lit (.int .u8 43), .lit (.int .u8 51), .lit (.int .u8 22), .lit (.int .u8 53), .lit (.int .u8 39), .lit (.int .u8 33), .lit (.int .u8 30), .lit (.int .u8 24), .lit (.int .u8 18), .lit (.int .u8 12), .lit (.int .u8 5), .lit (.int .u8 63), .lit (.int .u8 55), .lit (.int .u8 48), .lit (.int .u8 27), .lit (.int .u8 60), .lit (.int .u8 41), .lit (.int .u8 37), .lit (.int .u8 16), .lit (.int .u8 46), .lit (.int .u8 35), .lit (.int .u8 44), .lit (.int .u8 21), .lit (.int .u8 52), .lit (.int .u8 32), .lit (.int .u8 23), .lit (.int .u8 11), .lit (.int .u8 54), .lit (.int .u8 26), .lit (.int .u8 40), .lit (.int .u8 15), .lit (.int .u8 34), .lit (.int .u8 20), .lit (.int .u8 31), .lit (.int .u8 10), .lit (.int .u8 25), .lit (.int .u8 14), .lit (.int .u8 19), .lit (.int .u8 9), .lit (.int .u8 13), .lit (.int .u8 8), .lit (.int .u8 7), .lit (.int .u8 6)]
def laid_internal_strconv_uint64pow10 {H : Type} : DataW H := .agg [.lit (.int .u64 1), .lit (.int .u64 10), .lit (.int .u64 100), .lit (.int .u64 1000), .lit (.int .u64 10000), .lit (.int .u64 100000), .lit (.int .u64 1000000), .lit (.int .u64 10000000), .lit (.int .u64 100000000), .lit (.int .u64 1000000000), .lit (.int .u64 10000000000), .lit (.int .u64 100000000000), .lit (.int .u64 1000000000000), .lit (.int .u64 10000000000000), .lit (.int .u64 100000000000000), .lit (.int .u64 1000000000000000), .lit (.int .u64 10000000000000000), .lit (.int .u64 100000000000000000), .lit (.int .u64 1000000000000000000), .lit (.int .u64 10000000000000000000)]
def laid_example_com_seamline_seamline_kinds {H : Type} : DataW H := .agg [.agg [.lit (.string []), .lit (.int .i64 0), .lit (.int .i64 0), .nil], .agg [.lit (.string [112, 111, 105, 110, 116]), .lit (.int .i64 0), .lit (.int .i64 1), .nil], .agg [.lit (.string [108, 105, 110, 101]), .lit (.int .i64 1), .lit (.int .i64 2), .nil], .agg [.lit (.string [116, 114, 105]), .lit (.int .i64 2), .lit (.int .i64 3), .slice [.slice [.lit (.int .i64 0), .lit (.int .i64 1)] [], .slice [.lit (.int .i64 1), .lit (.int .i64 2)] [], .slice [.lit (.int .i64 2), .lit (.int .i64 0)] []] []], .agg [.lit (.string [113, 117, 97, 100]), .lit (.int .i64 2), .lit (.int .i64 4), .slice [.slice [.lit (.int .i64 0), .lit (.int .i64 1)] [], .slice [.lit (.int .i64 1), .lit (.int .i64 2)] [], .slice [.lit (.int .i64 2), .lit (.int .i64 3)] [], .slice [.lit (.int .i64 3), .lit (.int .i64 0)] []] []], .agg [.lit (.string [116, 101, 116]), .lit (.int .i64 3), .lit (.int .i64 4), .slice [.slice [.lit (.int .i64 0), .lit (.int .i64 1), .lit (.int .i64 2)] [], .slice [.lit (.int .i64 0), .lit (.int .i64 1), .lit (.int .i64 3)] [], .slice [.lit (.int .i64 1), .lit (.int .i64 2), .lit (.int .i64 3)] [], .slice [.lit (.int .i64 2), .lit (.int .i64 0), .lit (.int .i64 3)] []] []], .agg [.lit (.string [104, 101, 120]), .lit (.int .i64 3), .lit (.int .i64 8), .slice [.slice [.lit (.int .i64 0), .lit (.int .i64 1), .lit (.int .i64 2), .lit (.int .i64 3)] [], .slice [.lit (.int .i64 4), .lit (.int .i64 5), .lit (.int .i64 6), .lit (.int .i64 7)] [], .slice [.lit (.int .i64 0), .lit (.int .i64 1), .lit (.int .i64 5), .lit (.int .i64 4)] [], .slice [.lit (.int .i64 1), .lit (.int .i64 2), .lit (.int .i64 6), .lit (.int .i64 5)] [], .slice [.lit (.int .i64 2), .lit (.int .i64 3), .lit (.int .i64 7), .lit (.int .i64 6)] [], .slice [.lit (.int .i64 3), .lit (.int .i64 0), .lit (.int .i64 4), .lit (.int .i64 7)] []] []], .agg [.lit (.string [112, 114, 105, 115, 109]), .lit (.int .i64 3), .lit (.int .i64 6), .slice [.slice [.lit (.int .i64 0), .lit (.int .i64 1), .lit (.int .i64 2)] [], .slice [.lit (.int .i64 3), .lit (.int .i64 4), .lit (.int .i64 5)] [], .slice [.lit (.int .i64 0), .lit (.int .i64 1), .lit (.int .i64 4), .lit (.int .i64 3)] [], .slice [.lit (.int .i64 1), .lit (.int .i64 2), .lit (.int .i64 5), .lit (.int .i64 4)] [], .slice [.lit (.int .i64 2), .lit (.int .i64 0), .lit (.int .i64 3), .lit (.int .i64 5)] []] []], .agg [.lit (.string [112, 121, 114, 97, 109, 105, 100]), .lit (.int .i64 3), .lit (.int .i64 5), .slice [.slice [.lit (.int .i64 0), .lit (.int .i64 1), .lit (.int .i64 2), .lit (.int .i64 3)] [], .slice [.lit (.int .i64 0), .lit (.int .i64 1), .lit (.int .i64 4)] [], .slice [.lit (.int .i64 1), .lit (.int .i64 2), .lit (.int .i64 4)] [], .slice [.lit (.int .i64 2), .lit (.int .i64 3), .lit (.int .i64 4)] [], .slice [.lit (.int .i64 3), .lit (.int .i64 0), .lit (.int .i64 4)] []] []]]
def laid_unicode_utf8_acceptRanges {H : Type} : DataW H := .agg [.agg [.lit (.int .u8 128), .lit (.int .u8 191)], .agg [.lit (.int .u8 160), .lit (.int .u8 191)], .agg [.lit (.int .u8 128), .lit (.int .u8 159)], .agg [.lit (.int .u8 144), .lit (.int .u8 191)], .agg [.lit (.int .u8 128), .lit (.int .u8 143)], .agg [.lit (.int .u8 0), .lit (.int .u8 0)], .agg [.lit (.int .u8 0), .lit (.int .u8 0)], .agg [.lit (.int .u8 0), .lit (.int .u8 0)], .agg [.lit (.int .u8 0), .lit (.int .u8 0)], .agg [.lit (.int .u8 0), .lit (.int .u8 0)], .agg [.lit (.int .u8 0), .lit (.int .u8 0)], .agg [.lit (.int .u8 0), .lit (.int .u8 0)], .agg [.lit (.int .u8 0), .lit (.int .u8 0)], .agg [.lit (.int .u8 0), .lit (.int .u8 0)], .agg [.lit (.int .u8 0), .lit (.int .u8 0)], .agg [.lit (.int .u8 0), .lit (.int .u8 0)]]
def laid_strconv_ErrRange {H : Type} : DataW H := .iface "*errors.errorString" (.ptr (.agg [.lit (.string [118, 97, 108, 117, 101, 32, 111, 117, 116, 32, 111, 102, 32, 114, 97, 110, 103, 101])]))
def laid_strconv_ErrSyntax {H : Type} : DataW H := .iface "*errors.errorString" (.ptr (.agg [.lit (.string [105, 110, 118, 97, 108, 105, 100, 32, 115, 121, 110, 116, 97, 120])]))
/-- One of Go's own tables, pinned by name: the form's constant. -/
def laid_strconv_isGraphic : DataW Unit := Go.Pinned.isGraphic
/-- One of Go's own tables, pinned by name: the form's constant. -/
def laid_strconv_isNotPrint16 : DataW Unit := Go.Pinned.isNotPrint16
/-- One of Go's own tables, pinned by name: the form's constant. -/
def laid_strconv_isNotPrint32 : DataW Unit := Go.Pinned.isNotPrint32
/-- One of Go's own tables, pinned by name: the form's constant. -/
def laid_strconv_isPrint16 : DataW Unit := Go.Pinned.isPrint16
/-- One of Go's own tables, pinned by name: the form's constant. -/
def laid_strconv_isPrint32 : DataW Unit := Go.Pinned.isPrint32
/-- One of Go's own tables, pinned by name: the form's constant. -/
def laid_unicode_utf8_first : DataW Unit := Go.Pinned.utf8First

/-- 'seamline.LawS4124AGrid': WHATEVER THE INPUT: true; the input reads as it did. -/
def lawS4124AGridSpec : ChangeSpec := { name := "lawS4124AGrid", vars := ["example.com/seamline/seamline.kinds"], fn := fun _ => fun
  | [d1, d2, g1] => { results := [.lit (.bool true)], args := [d1, d2], vars := [g1] }
  | _ => none }
def lawS4124AGridRow : OpenClaim := { program := "ybulkcgjqfmt", sum := "f67e90e7ac48fad0d1676decd53bf66feca791e8a48bcc0504642338dfa3a742", func := "example.com/seamline/seamline.LawS4124AGrid", spec := "lawS4124AGrid", stops := ["fmt.errorf, its operands' methods called", "fmt.Sprintf, its operands' methods called"], inPlace := ["fmt.errorf", "math.Float64bits", "math.Float64frombits", "internal/abi.NoEscape", "internal/bytealg.MakeNoZero"], unfollowed := true, recurses := true, named := ["example.com/seamline/seamline.kinds", "internal/strconv.uint64pow10", "math/bits.deBruijn32tab", "math/bits.deBruijn64tab"], plainKeys := false, apart := false, laid := [("math/bits.deBruijn32tab", laid_math_bits_deBruijn32tab), ("math/bits.deBruijn64tab", laid_math_bits_deBruijn64tab), ("internal/strconv.uint64pow10", laid_internal_strconv_uint64pow10), ("example.com/seamline/seamline.kinds", laid_example_com_seamline_seamline_kinds)] }
/-- NO THEOREM (fmt's text is open here; it may be false): for the released tool's asking of the row's closed facts alone. THE STATEMENT IS 'LawS4124AGridToldSaid' (YbulkcgjqFmtCards.lean). -/
def LawS4124AGridFormAsk : Prop := lawS4124AGridRow.holds Ybaf.pinned (OpenSpec.ofChange lawS4124AGridSpec)

/-- ITS FALSE NEIGHBOUR: 'it returns false'. Refute it at one input. -/
def lawS4124AGridWrong : ChangeSpec := { name := "lawS4124AGrid", vars := ["example.com/seamline/seamline.kinds"], fn := fun _ => fun
  | [d1, d2, g1] => { results := [.lit (.bool false)], args := [d1, d2], vars := [g1] }
  | _ => none }
def LawS4124AGridWrongFormAsk : Prop := lawS4124AGridRow.holds Ybaf.pinned (OpenSpec.ofChange lawS4124AGridWrong)

/-- 'seamline.LawS4124ARefuses': WHATEVER THE INPUT: true; the input reads as it did. -/
def lawS4124ARefusesSpec : ChangeSpec := { name := "lawS4124ARefuses", vars := ["example.com/seamline/seamline.kinds"], fn := fun _ => fun
  | [d1, d2, d3, d4, g1] => { results := [.lit (.bool true)], args := [d1, d2, d3, d4], vars := [g1] }
  | _ => none }
def lawS4124ARefusesRow : OpenClaim := { program := "ybulkcgjqfmt", sum := "f67e90e7ac48fad0d1676decd53bf66feca791e8a48bcc0504642338dfa3a742", func := "example.com/seamline/seamline.LawS4124ARefuses", spec := "lawS4124ARefuses", stops := ["fmt.errorf, its operands' methods called", "fmt.Sprintf, its operands' methods called"], inPlace := ["fmt.errorf", "math.Float64bits", "math.Float64frombits", "internal/abi.NoEscape", "internal/bytealg.MakeNoZero"], unfollowed := true, recurses := true, named := ["example.com/seamline/seamline.kinds", "internal/strconv.uint64pow10", "math/bits.deBruijn32tab", "math/bits.deBruijn64tab"], plainKeys := false, apart := false, laid := [("math/bits.deBruijn32tab", laid_math_bits_deBruijn32tab), ("math/bits.deBruijn64tab", laid_math_bits_deBruijn64tab), ("internal/strconv.uint64pow10", laid_internal_strconv_uint64pow10), ("example.com/seamline/seamline.kinds", laid_example_com_seamline_seamline_kinds)] }
/-- NO THEOREM (fmt's text is open here; it may be false): for the released tool's asking of the row's closed facts alone. THE STATEMENT IS 'LawS4124ARefusesToldSaid' (YbulkcgjqFmtCards.lean). -/
def LawS4124ARefusesFormAsk : Prop := lawS4124ARefusesRow.holds Ybaf.pinned (OpenSpec.ofChange lawS4124ARefusesSpec)

/-- ITS FALSE NEIGHBOUR: 'it returns false'. Refute it at one input. -/
def lawS4124ARefusesWrong : ChangeSpec := { name := "lawS4124ARefuses", vars := ["example.com/seamline/seamline.kinds"], fn := fun _ => fun
  | [d1, d2, d3, d4, g1] => { results := [.lit (.bool false)], args := [d1, d2, d3, d4], vars := [g1] }
  | _ => none }
def LawS4124ARefusesWrongFormAsk : Prop := lawS4124ARefusesRow.holds Ybaf.pinned (OpenSpec.ofChange lawS4124ARefusesWrong)

/-- 'seamline.LawS4124BSizes': WHATEVER THE INPUT: true; the input reads as it did. -/
def lawS4124BSizesSpec : ChangeSpec := { name := "lawS4124BSizes", vars := ["example.com/seamline/seamline.kinds"], fn := fun _ => fun
  | [d1, d2, d3, d4, g1] => { results := [.lit (.bool true)], args := [d1, d2, d3, d4], vars := [g1] }
  | _ => none }
def lawS4124BSizesRow : OpenClaim := { program := "ybulkcgjqfmt", sum := "f67e90e7ac48fad0d1676decd53bf66feca791e8a48bcc0504642338dfa3a742", func := "example.com/seamline/seamline.LawS4124BSizes", spec := "lawS4124BSizes", stops := ["fmt.errorf, its operands' methods called", "fmt.Sprintf, its operands' methods called"], inPlace := ["fmt.errorf"], unfollowed := true, recurses := true, named := ["example.com/seamline/seamline.kinds"], plainKeys := false, apart := false, laid := [("example.com/seamline/seamline.kinds", laid_example_com_seamline_seamline_kinds)] }
/-- NO THEOREM (fmt's text is open here; it may be false): for the released tool's asking of the row's closed facts alone. THE STATEMENT IS 'LawS4124BSizesToldSaid' (YbulkcgjqFmtCards.lean). -/
def LawS4124BSizesFormAsk : Prop := lawS4124BSizesRow.holds Ybaf.pinned (OpenSpec.ofChange lawS4124BSizesSpec)

/-- ITS FALSE NEIGHBOUR: 'it returns false'. Refute it at one input. -/
def lawS4124BSizesWrong : ChangeSpec := { name := "lawS4124BSizes", vars := ["example.com/seamline/seamline.kinds"], fn := fun _ => fun
  | [d1, d2, d3, d4, g1] => { results := [.lit (.bool false)], args := [d1, d2, d3, d4], vars := [g1] }
  | _ => none }
def LawS4124BSizesWrongFormAsk : Prop := lawS4124BSizesRow.holds Ybaf.pinned (OpenSpec.ofChange lawS4124BSizesWrong)

/-- 'gmsh.LawS4124CModel': WHATEVER THE INPUT: true; the input reads as it did. -/
def lawS4124CModelSpec : ChangeSpec := { name := "lawS4124CModel", fn := fun _ => fun
  | [d1, d2, d3, d4] => { results := [.lit (.bool true)], args := [d1, d2, d3, d4] }
  | _ => none }
def lawS4124CModelRow : OpenClaim := { program := "ybulkcgjqfmt", sum := "f67e90e7ac48fad0d1676decd53bf66feca791e8a48bcc0504642338dfa3a742", func := "example.com/seamline/seamline/gmsh.LawS4124CModel", spec := "lawS4124CModel", stops := ["fmt.errorf, its operands' methods called", "fmt.Sprintf, its operands' methods called"], inPlace := ["fmt.Sprintf", "fmt.errorf"], unfollowed := true, recurses := true, named := ["unicode/utf8.first", "unicode/utf8.acceptRanges", "strconv.isPrint16", "strconv.isNotPrint16", "strconv.isPrint32", "strconv.isNotPrint32", "strconv.isGraphic", "strconv.ErrSyntax", "strconv.ErrRange", "internal/strconv.uint64pow10", "math/bits.deBruijn32tab", "math/bits.deBruijn64tab"], plainKeys := false, apart := false, laid := [("math/bits.deBruijn32tab", laid_math_bits_deBruijn32tab), ("math/bits.deBruijn64tab", laid_math_bits_deBruijn64tab), ("internal/strconv.uint64pow10", laid_internal_strconv_uint64pow10), ("unicode/utf8.acceptRanges", laid_unicode_utf8_acceptRanges), ("strconv.ErrRange", laid_strconv_ErrRange), ("strconv.ErrSyntax", laid_strconv_ErrSyntax), ("strconv.isGraphic", laid_strconv_isGraphic), ("strconv.isNotPrint16", laid_strconv_isNotPrint16), ("strconv.isNotPrint32", laid_strconv_isNotPrint32), ("strconv.isPrint16", laid_strconv_isPrint16), ("strconv.isPrint32", laid_strconv_isPrint32), ("unicode/utf8.first", laid_unicode_utf8_first)] }
/-- NO THEOREM (fmt's text is open here; it may be false): for the released tool's asking of the row's closed facts alone. THE STATEMENT IS 'LawS4124CModelToldSaid' (YbulkcgjqFmtCards.lean). -/
def LawS4124CModelFormAsk : Prop := lawS4124CModelRow.holds Ybaf.pinned (OpenSpec.ofChange lawS4124CModelSpec)

/-- ITS FALSE NEIGHBOUR: 'it returns false'. Refute it at one input. -/
def lawS4124CModelWrong : ChangeSpec := { name := "lawS4124CModel", fn := fun _ => fun
  | [d1, d2, d3, d4] => { results := [.lit (.bool false)], args := [d1, d2, d3, d4] }
  | _ => none }
def LawS4124CModelWrongFormAsk : Prop := lawS4124CModelRow.holds Ybaf.pinned (OpenSpec.ofChange lawS4124CModelWrong)

/-- 'gmsh.LawS4124CPair': WHATEVER THE INPUT: true; the input reads as it did. -/
def lawS4124CPairSpec : ChangeSpec := { name := "lawS4124CPair", fn := fun _ => fun
  | [d1, d2, d3] => { results := [.lit (.bool true)], args := [d1, d2, d3] }
  | _ => none }
def lawS4124CPairRow : OpenClaim := { program := "ybulkcgjqfmt", sum := "f67e90e7ac48fad0d1676decd53bf66feca791e8a48bcc0504642338dfa3a742", func := "example.com/seamline/seamline/gmsh.LawS4124CPair", spec := "lawS4124CPair", stops := ["fmt.errorf, its operands' methods called", "fmt.Sprintf, its operands' methods called"], inPlace := ["fmt.Sprintf", "fmt.errorf"], unfollowed := true, recurses := true, named := ["internal/strconv.uint64pow10", "math/bits.deBruijn32tab", "math/bits.deBruijn64tab", "unicode/utf8.first", "unicode/utf8.acceptRanges", "strconv.isPrint16", "strconv.isNotPrint16", "strconv.isPrint32", "strconv.isNotPrint32", "strconv.isGraphic", "strconv.ErrSyntax", "strconv.ErrRange"], plainKeys := false, apart := false, laid := [("math/bits.deBruijn32tab", laid_math_bits_deBruijn32tab), ("math/bits.deBruijn64tab", laid_math_bits_deBruijn64tab), ("internal/strconv.uint64pow10", laid_internal_strconv_uint64pow10), ("unicode/utf8.acceptRanges", laid_unicode_utf8_acceptRanges), ("strconv.ErrRange", laid_strconv_ErrRange), ("strconv.ErrSyntax", laid_strconv_ErrSyntax), ("strconv.isGraphic", laid_strconv_isGraphic), ("strconv.isNotPrint16", laid_strconv_isNotPrint16), ("strconv.isNotPrint32", laid_strconv_isNotPrint32), ("strconv.isPrint16", laid_strconv_isPrint16), ("strconv.isPrint32", laid_strconv_isPrint32), ("unicode/utf8.first", laid_unicode_utf8_first)] }
/-- NO THEOREM (fmt's text is open here; it may be false): for the released tool's asking of the row's closed facts alone. THE STATEMENT IS 'LawS4124CPairToldSaid' (YbulkcgjqFmtCards.lean). -/
def LawS4124CPairFormAsk : Prop := lawS4124CPairRow.holds Ybaf.pinned (OpenSpec.ofChange lawS4124CPairSpec)

/-- ITS FALSE NEIGHBOUR: 'it returns false'. Refute it at one input. -/
def lawS4124CPairWrong : ChangeSpec := { name := "lawS4124CPair", fn := fun _ => fun
  | [d1, d2, d3] => { results := [.lit (.bool false)], args := [d1, d2, d3] }
  | _ => none }
def LawS4124CPairWrongFormAsk : Prop := lawS4124CPairRow.holds Ybaf.pinned (OpenSpec.ofChange lawS4124CPairWrong)

end Rows
end Go.Proofs.YbulkcgjqFmt
