/-
  NARROWER THAN 'FOR EVERY INPUT', by the rows' own cells (each row's printed sentence says how): FnCompatibleNextKeyIsKeyAndGap: laid · FnCompatibleByLockParts: laid · FnQuoteTextReadsBack: laid · FnQuoteTextTellsTextsApart: laid · FnConflictingSameAtAnyCut: laid · FnConflictingOneMoreRequest: laid.
  DERIVED. THE GIVEN ROWS OF THIS SEAT. 6 by the template 'for every input the law returns true; each argument reads behind the call as it read before'; 0 by the template 'total and deterministic' (their statements: Qxb6608630aDoorTotals.lean).
  GIVEN WITH THE SEED: the statements are not yours to turn. If you find one false, say at which input.
  Laid BY PROGRAM, IN A SANDBOX (cutbox-rows.mjs): the forced cells as the released guide's own fill.sh prints them over the translation 387b845279b50750… (all of the seat's roots in one cut). By AI agents, Wed Nov 11 2026. No macro, syntax, notation, axiom, sorry.
-/
import Derived.Test.Qxb6608630aDoorChecked
import GoSem.PinnedTables
import GoSem.Claim
import GoSem.ClaimJoined
import GoSem.ClaimMapViews
import Derived.JoinedTies
import Derived.KernelRfl
namespace Go.Proofs.Qxb6608630aDoor
/- THE CELL 'sum', in the pinned program and in every row, IS THE sha256 OF THE DUMP (.gsa) THAT Qxb6608630aDoorProg.lean LOADS. Nothing in Lean hashes anything: it is a label: what it is worth is what the hold of that sum in a sandbox is worth. -/
noncomputable def Tryd.pinned : Pinned := { name := "qxb6608630adoor", sum := "387b845279b50750e36f1f315c78741158afb65ae8feb6ea77ad0da10e55d37c", checked := Tryd.checked }
namespace Rows
def none {H : Type} : Left H := { results := [], args := [] }

/- WHAT THE LISTED PACKAGE-LEVEL VARIABLES READ AS WHEN THE CALL BEGINS. Each datum BY PROGRAM (the guide's laid-datum.mjs) off the statement by which the dump's own 'gosem.cut.vars' lays the variable. In a bare row this is a premise. The card (Qxb6608630aDoorCards.lean) ties it to the program's text. -/
def laid_example_com_latchwork_latchwork_modeRules {H : Type} : DataW H := .agg [.agg [.lit (.string []), .lit (.int .u16 0), .lit (.int .u16 0), .lit (.int .u8 0)], .agg [.lit (.string [83]), .lit (.int .u16 746), .lit (.int .u16 10), .lit (.int .u8 3)], .agg [.lit (.string [88]), .lit (.int .u16 608), .lit (.int .u16 30), .lit (.int .u8 3)], .agg [.lit (.string [73, 83]), .lit (.int .u16 26), .lit (.int .u16 8), .lit (.int .u8 1)], .agg [.lit (.string [73, 88]), .lit (.int .u16 24), .lit (.int .u16 24), .lit (.int .u8 1)], .agg [.lit (.string [83, 44, 71, 65, 80]), .lit (.int .u16 486), .lit (.int .u16 96), .lit (.int .u8 2)], .agg [.lit (.string [88, 44, 71, 65, 80]), .lit (.int .u16 486), .lit (.int .u16 96), .lit (.int .u8 2)], .agg [.lit (.string [83, 44, 78, 69, 88, 84, 95, 75, 69, 89]), .lit (.int .u16 226), .lit (.int .u16 226), .lit (.int .u8 2)], .agg [.lit (.string [88, 44, 78, 69, 88, 84, 95, 75, 69, 89]), .lit (.int .u16 96), .lit (.int .u16 486), .lit (.int .u8 2)], .agg [.lit (.string [88, 44, 73, 78, 83, 69, 82, 84, 95, 73, 78, 84, 69, 78, 84, 73, 79, 78]), .lit (.int .u16 998), .lit (.int .u16 0), .lit (.int .u8 2)]]
def laid_math_bits_deBruijn32tab {H : Type} : DataW H := .agg [.lit (.int .u8 0), .lit (.int .u8 1), .lit (.int .u8 28), .lit (.int .u8 2), .lit (.int .u8 29), .lit (.int .u8 14), .lit (.int .u8 24), .lit (.int .u8 3), .lit (.int .u8 30), .lit (.int .u8 22), .lit (.int .u8 20), .lit (.int .u8 15), .lit (.int .u8 25), .lit (.int .u8 17), .lit (.int .u8 4), .lit (.int .u8 8), .lit (.int .u8 31), .lit (.int .u8 27), .lit (.int .u8 13), .lit (.int .u8 23), .lit (.int .u8 21), .lit (.int .u8 19), .lit (.int .u8 16), .lit (.int .u8 7), .lit (.int .u8 26), .lit (.int .u8 12), .lit (.int .u8 18), .lit (.int .u8 6), .lit (.int .u8 11), .lit (.int .u8 5), .lit (.int .u8 10), .lit (.int .u8 9)]
def laid_math_bits_deBruijn64tab {H : Type} : DataW H := .agg [.lit (.int .u8 0), .lit (.int .u8 1), .lit (.int .u8 56), .lit (.int .u8 2), .lit (.int .u8 57), .lit (.int .u8 49), .lit (.int .u8 28), .lit (.int .u8 3), .lit (.int .u8 61), .lit (.int .u8 58), .lit (.int .u8 42), .lit (.int .u8 50), .lit (.int .u8 38), .lit (.int .u8 29), .lit (.int .u8 17), .lit (.int .u8 4), .lit (.int .u8 62), .lit (.int .u8 47), .lit (.int .u8 59), .lit (.int .u8 36), .lit (.int .u8 45), .lit (.int .u8 43), .lit (.int .u8 51), .lit (.int .u8 22), .lit (.int .u8 53), .lit (.int .u8 39), .lit (.int .u8 33), .lit (.int .u8 30), .lit (.int .u8 24), .lit (.int .u8 18), .lit (.int .u8 12), .lit (.int .u8 5), .lit (.int .u8 63), .lit (.int .u8 55), .lit (.int .u8 48), .lit (.int .u8 27), .lit (.int .u8 60), .lit (.int .u8 41), .lit (.int .u8 37), .lit (.int .u8 16), .lit (.int .u8 46), .lit (.int .u8 35), .lit (.int .u8 44), .lit (.int .u8 21), .lit (.int .u8 52), .lit (.int .u8 32), .lit (.int .u8 23), .lit (.int .u8 11), .lit (.int .u8 54), .lit (.int .u8 26), .lit (.int .u8 40), .lit (.int .u8 15), .lit (.int .u8 34), .lit (.int .u8 20), .lit (.int .u8 31), .lit (.int .u8 10), .lit (.int .u8 25), .lit (.int .u8 14), .lit (.int .u8 19), .lit (.int .u8 9), .lit (.int .u8 13), .lit (.int .u8 8), .lit (.int .u8 7), .lit (.int .u8 6)]
def laid_internal_strconv_uint64pow10 {H : Type} : DataW H := .agg [.lit (.int .u64 1), .lit (.int .u64 10), .lit (.int .u64 100), .lit (.int .u64 1000), .lit (.int .u64 10000), .lit (.int .u64 100000), .lit (.int .u64 1000000), .lit (.int .u64 10000000), .lit (.int .u64 100000000), .lit (.int .u64 1000000000), .lit (.int .u64 10000000000), .lit (.int .u64 100000000000), .lit (.int .u64 1000000000000), .lit (.int .u64 10000000000000), .lit (.int .u64 100000000000000), .lit (.int .u64 1000000000000000), .lit (.int .u64 10000000000000000), .lit (.int .u64 100000000000000000), .lit (.int .u64 1000000000000000000), .lit (.int .u64 10000000000000000000)]
def laid_unicode_utf8_acceptRanges {H : Type} : DataW H := .agg [.agg [.lit (.int .u8 128), .lit (.int .u8 191)], .agg [.lit (.int .u8 160), .lit (.int .u8 191)], .agg [.lit (.int .u8 128), .lit (.int .u8 159)], .agg [.lit (.int .u8 144), .lit (.int .u8 191)], .agg [.lit (.int .u8 128), .lit (.int .u8 143)], .agg [.lit (.int .u8 0), .lit (.int .u8 0)], .agg [.lit (.int .u8 0), .lit (.int .u8 0)], .agg [.lit (.int .u8 0), .lit (.int .u8 0)], .agg [.lit (.int .u8 0), .lit (.int .u8 0)], .agg [.lit (.int .u8 0), .lit (.int .u8 0)], .agg [.lit (.int .u8 0), .lit (.int .u8 0)], .agg [.lit (.int .u8 0), .lit (.int .u8 0)], .agg [.lit (.int .u8 0), .lit (.int .u8 0)], .agg [.lit (.int .u8 0), .lit (.int .u8 0)], .agg [.lit (.int .u8 0), .lit (.int .u8 0)], .agg [.lit (.int .u8 0), .lit (.int .u8 0)]]
/-- One of Go's own tables, pinned by name: the form's constant. -/
def laid_strconv_isGraphic : DataW Unit := Go.Pinned.isGraphic
/-- One of Go's own tables, pinned by name: the form's constant. -/
def laid_strconv_isNotPrint16 : DataW Unit := Go.Pinned.isNotPrint16
/-- One of Go's own tables, pinned by name: the form's constant. -/
def laid_strconv_isNotPrint32 : DataW Unit := Go.Pinned.isNotPrint32
/-- One of Go's own tables, pinned by name: the form's constant. -/
def laid_strconv_isPrint16 : DataW Unit := Go.Pinned.isPrint16
/-- One of Go's own tables, pinned by name: the form's constant. -/
def laid_strconv_isPrint32 : DataW Unit := Go.Pinned.isPrint32
/-- One of Go's own tables, pinned by name: the form's constant. -/
def laid_unicode_utf8_first : DataW Unit := Go.Pinned.utf8First

/-- 'zzlaws_root_b1.FnCompatibleNextKeyIsKeyAndGap': WHATEVER THE INPUT: true; the input reads as it did. -/
def fnCompatibleNextKeyIsKeyAndGapSpec : ChangeSpec := { name := "fnCompatibleNextKeyIsKeyAndGap", vars := ["example.com/latchwork/latchwork.modeRules"], fn := fun _ => fun
  | [d, g1] => { results := [.lit (.bool true)], args := [d], vars := [g1] }
  | _ => none }
def fnCompatibleNextKeyIsKeyAndGapRow : OpenClaim := { program := "qxb6608630adoor", sum := "387b845279b50750e36f1f315c78741158afb65ae8feb6ea77ad0da10e55d37c", func := "example.com/latchwork/latchwork/zzlaws_root_b1.FnCompatibleNextKeyIsKeyAndGap", spec := "fnCompatibleNextKeyIsKeyAndGap", named := ["example.com/latchwork/latchwork.modeRules"], plainKeys := false, apart := false, laid := [("example.com/latchwork/latchwork.modeRules", laid_example_com_latchwork_latchwork_modeRules)] }
def FnCompatibleNextKeyIsKeyAndGapSaid : Prop := fnCompatibleNextKeyIsKeyAndGapRow.holds Tryd.pinned (OpenSpec.ofChange fnCompatibleNextKeyIsKeyAndGapSpec)

/-- ITS FALSE NEIGHBOUR: 'it returns false'. Refute it at one input. -/
def fnCompatibleNextKeyIsKeyAndGapWrong : ChangeSpec := { name := "fnCompatibleNextKeyIsKeyAndGap", vars := ["example.com/latchwork/latchwork.modeRules"], fn := fun _ => fun
  | [d, g1] => { results := [.lit (.bool false)], args := [d], vars := [g1] }
  | _ => none }
def FnCompatibleNextKeyIsKeyAndGapWrongFalsely : Prop := fnCompatibleNextKeyIsKeyAndGapRow.holds Tryd.pinned (OpenSpec.ofChange fnCompatibleNextKeyIsKeyAndGapWrong)

/-- 'zzlaws_root_b1.FnCompatibleByLockParts': WHATEVER THE INPUT: true; the input reads as it did. -/
def fnCompatibleByLockPartsSpec : ChangeSpec := { name := "fnCompatibleByLockParts", vars := ["example.com/latchwork/latchwork.modeRules"], fn := fun _ => fun
  | [d1, d2, g1] => { results := [.lit (.bool true)], args := [d1, d2], vars := [g1] }
  | _ => none }
def fnCompatibleByLockPartsRow : OpenClaim := { program := "qxb6608630adoor", sum := "387b845279b50750e36f1f315c78741158afb65ae8feb6ea77ad0da10e55d37c", func := "example.com/latchwork/latchwork/zzlaws_root_b1.FnCompatibleByLockParts", spec := "fnCompatibleByLockParts", named := ["example.com/latchwork/latchwork.modeRules"], plainKeys := false, apart := false, laid := [("example.com/latchwork/latchwork.modeRules", laid_example_com_latchwork_latchwork_modeRules)] }
def FnCompatibleByLockPartsSaid : Prop := fnCompatibleByLockPartsRow.holds Tryd.pinned (OpenSpec.ofChange fnCompatibleByLockPartsSpec)

/-- ITS FALSE NEIGHBOUR: 'it returns false'. Refute it at one input. -/
def fnCompatibleByLockPartsWrong : ChangeSpec := { name := "fnCompatibleByLockParts", vars := ["example.com/latchwork/latchwork.modeRules"], fn := fun _ => fun
  | [d1, d2, g1] => { results := [.lit (.bool false)], args := [d1, d2], vars := [g1] }
  | _ => none }
def FnCompatibleByLockPartsWrongFalsely : Prop := fnCompatibleByLockPartsRow.holds Tryd.pinned (OpenSpec.ofChange fnCompatibleByLockPartsWrong)

/-- 'zzlaws_root_b1.FnQuoteTextReadsBack': WHATEVER THE INPUT: true; the input reads as it did. -/
def fnQuoteTextReadsBackSpec : ChangeSpec := { name := "fnQuoteTextReadsBack", fn := fun _ => fun
  | [d] => { results := [.lit (.bool true)], args := [d] }
  | _ => none }
def fnQuoteTextReadsBackRow : OpenClaim := { program := "qxb6608630adoor", sum := "387b845279b50750e36f1f315c78741158afb65ae8feb6ea77ad0da10e55d37c", func := "example.com/latchwork/latchwork/zzlaws_root_b1.FnQuoteTextReadsBack", spec := "fnQuoteTextReadsBack", named := ["unicode/utf8.first", "unicode/utf8.acceptRanges", "strconv.isPrint16", "strconv.isNotPrint16", "strconv.isPrint32", "strconv.isNotPrint32", "strconv.isGraphic", "internal/strconv.uint64pow10", "math/bits.deBruijn32tab", "math/bits.deBruijn64tab"], plainKeys := false, apart := false, laid := [("math/bits.deBruijn32tab", laid_math_bits_deBruijn32tab), ("math/bits.deBruijn64tab", laid_math_bits_deBruijn64tab), ("internal/strconv.uint64pow10", laid_internal_strconv_uint64pow10), ("unicode/utf8.acceptRanges", laid_unicode_utf8_acceptRanges), ("strconv.isGraphic", laid_strconv_isGraphic), ("strconv.isNotPrint16", laid_strconv_isNotPrint16), ("strconv.isNotPrint32", laid_strconv_isNotPrint32), ("strconv.isPrint16", laid_strconv_isPrint16), ("strconv.isPrint32", laid_strconv_isPrint32), ("unicode/utf8.first", laid_unicode_utf8_first)] }
def FnQuoteTextReadsBackSaid : Prop := fnQuoteTextReadsBackRow.holds Tryd.pinned (OpenSpec.ofChange fnQuoteTextReadsBackSpec)

/-- ITS FALSE NEIGHBOUR: 'it returns false'. Refute it at one input. -/
def fnQuoteTextReadsBackWrong : ChangeSpec := { name := "fnQuoteTextReadsBack", fn := fun _ => fun
  | [d] => { results := [.lit (.bool false)], args := [d] }
  | _ => none }
def FnQuoteTextReadsBackWrongFalsely : Prop := fnQuoteTextReadsBackRow.holds Tryd.pinned (OpenSpec.ofChange fnQuoteTextReadsBackWrong)

/-- 'zzlaws_root_b1.FnQuoteTextTellsTextsApart': WHATEVER THE INPUT: true; the input reads as it did. -/
def fnQuoteTextTellsTextsApartSpec : ChangeSpec := { name := "fnQuoteTextTellsTextsApart", fn := fun _ => fun
  | [d1, d2] => { results := [.lit (.bool true)], args := [d1, d2] }
  | _ => none }
def fnQuoteTextTellsTextsApartRow : OpenClaim := { program := "qxb6608630adoor", sum := "387b845279b50750e36f1f315c78741158afb65ae8feb6ea77ad0da10e55d37c", func := "example.com/latchwork/latchwork/zzlaws_root_b1.FnQuoteTextTellsTextsApart", spec := "fnQuoteTextTellsTextsApart", named := ["unicode/utf8.first", "unicode/utf8.acceptRanges", "strconv.isPrint16", "strconv.isNotPrint16", "strconv.isPrint32", "strconv.isNotPrint32", "strconv.isGraphic", "internal/strconv.uint64pow10", "math/bits.deBruijn32tab", "math/bits.deBruijn64tab"], plainKeys := false, apart := false, laid := [("math/bits.deBruijn32tab", laid_math_bits_deBruijn32tab), ("math/bits.deBruijn64tab", laid_math_bits_deBruijn64tab), ("internal/strconv.uint64pow10", laid_internal_strconv_uint64pow10), ("unicode/utf8.acceptRanges", laid_unicode_utf8_acceptRanges), ("strconv.isGraphic", laid_strconv_isGraphic), ("strconv.isNotPrint16", laid_strconv_isNotPrint16), ("strconv.isNotPrint32", laid_strconv_isNotPrint32), ("strconv.isPrint16", laid_strconv_isPrint16), ("strconv.isPrint32", laid_strconv_isPrint32), ("unicode/utf8.first", laid_unicode_utf8_first)] }
def FnQuoteTextTellsTextsApartSaid : Prop := fnQuoteTextTellsTextsApartRow.holds Tryd.pinned (OpenSpec.ofChange fnQuoteTextTellsTextsApartSpec)

/-- ITS FALSE NEIGHBOUR: 'it returns false'. Refute it at one input. -/
def fnQuoteTextTellsTextsApartWrong : ChangeSpec := { name := "fnQuoteTextTellsTextsApart", fn := fun _ => fun
  | [d1, d2] => { results := [.lit (.bool false)], args := [d1, d2] }
  | _ => none }
def FnQuoteTextTellsTextsApartWrongFalsely : Prop := fnQuoteTextTellsTextsApartRow.holds Tryd.pinned (OpenSpec.ofChange fnQuoteTextTellsTextsApartWrong)

/-- 'zzlaws_root_b1.FnConflictingSameAtAnyCut': WHATEVER THE INPUT: true; the input reads as it did. -/
def fnConflictingSameAtAnyCutSpec : ChangeSpec := { name := "fnConflictingSameAtAnyCut", vars := ["example.com/latchwork/latchwork.modeRules"], fn := fun _ => fun
  | [d1, d2, d3, d4, d5, g1] => { results := [.lit (.bool true)], args := [d1, d2, d3, d4, d5], vars := [g1] }
  | _ => none }
def fnConflictingSameAtAnyCutRow : OpenClaim := { program := "qxb6608630adoor", sum := "387b845279b50750e36f1f315c78741158afb65ae8feb6ea77ad0da10e55d37c", func := "example.com/latchwork/latchwork/zzlaws_root_b1.FnConflictingSameAtAnyCut", spec := "fnConflictingSameAtAnyCut", unfollowed := true, recurses := true, named := ["example.com/latchwork/latchwork.modeRules"], plainKeys := false, apart := false, laid := [("example.com/latchwork/latchwork.modeRules", laid_example_com_latchwork_latchwork_modeRules)] }
def FnConflictingSameAtAnyCutSaid : Prop := fnConflictingSameAtAnyCutRow.holds Tryd.pinned (OpenSpec.ofChange fnConflictingSameAtAnyCutSpec)

/-- ITS FALSE NEIGHBOUR: 'it returns false'. Refute it at one input. -/
def fnConflictingSameAtAnyCutWrong : ChangeSpec := { name := "fnConflictingSameAtAnyCut", vars := ["example.com/latchwork/latchwork.modeRules"], fn := fun _ => fun
  | [d1, d2, d3, d4, d5, g1] => { results := [.lit (.bool false)], args := [d1, d2, d3, d4, d5], vars := [g1] }
  | _ => none }
def FnConflictingSameAtAnyCutWrongFalsely : Prop := fnConflictingSameAtAnyCutRow.holds Tryd.pinned (OpenSpec.ofChange fnConflictingSameAtAnyCutWrong)

/-- 'zzlaws_root_b1.FnConflictingOneMoreRequest': WHATEVER THE INPUT: true; the input reads as it did. -/
def fnConflictingOneMoreRequestSpec : ChangeSpec := { name := "fnConflictingOneMoreRequest", vars := ["example.com/latchwork/latchwork.modeRules"], fn := fun _ => fun
  | [d1, d2, d3, d4, d5, d6, d7, g1] => { results := [.lit (.bool true)], args := [d1, d2, d3, d4, d5, d6, d7], vars := [g1] }
  | _ => none }
def fnConflictingOneMoreRequestRow : OpenClaim := { program := "qxb6608630adoor", sum := "387b845279b50750e36f1f315c78741158afb65ae8feb6ea77ad0da10e55d37c", func := "example.com/latchwork/latchwork/zzlaws_root_b1.FnConflictingOneMoreRequest", spec := "fnConflictingOneMoreRequest", unfollowed := true, recurses := true, named := ["example.com/latchwork/latchwork.modeRules"], plainKeys := false, apart := false, laid := [("example.com/latchwork/latchwork.modeRules", laid_example_com_latchwork_latchwork_modeRules)] }
def FnConflictingOneMoreRequestSaid : Prop := fnConflictingOneMoreRequestRow.holds Tryd.pinned (OpenSpec.ofChange fnConflictingOneMoreRequestSpec)

/-- ITS FALSE NEIGHBOUR: 'it returns false'. Refute it at one input. -/
def fnConflictingOneMoreRequestWrong : ChangeSpec := { name := "fnConflictingOneMoreRequest", vars := ["example.com/latchwork/latchwork.modeRules"], fn := fun _ => fun
  | [d1, d2, d3, d4, d5, d6, d7, g1] => { results := [.lit (.bool false)], args := [d1, d2, d3, d4, d5, d6, d7], vars := [g1] }
  | _ => none }
def FnConflictingOneMoreRequestWrongFalsely : Prop := fnConflictingOneMoreRequestRow.holds Tryd.pinned (OpenSpec.ofChange fnConflictingOneMoreRequestWrong)

end Rows
end Go.Proofs.Qxb6608630aDoor
