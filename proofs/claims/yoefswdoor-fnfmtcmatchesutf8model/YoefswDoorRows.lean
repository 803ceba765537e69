/-
  NARROWER THAN 'FOR EVERY INPUT', by the rows' own cells (each row's printed sentence says how): FnFmtSxMatchesHexModel: ifaces, laid · FnFmtSxPrecisionIsACut: ifaces, laid · FnFmtBxMatchesHexModel: ifaces, laid · FnFmtBxAgreesWithFmtSx: ifaces, laid · FnFmtQASCIIMatchesQuoteModel: ifaces, laid · FnFmtQPlusIsPrintableASCII: ifaces, laid · FnFmtCMatchesUTF8Model: ifaces, laid · FnFmtCInjectiveOnScalars: ifaces, laid.
  DERIVED. THE GIVEN ROWS OF THIS SEAT. 8 by the template 'for every input the law returns true; each argument reads behind the call as it read before'; 0 by the template 'total and deterministic' (their statements: YoefswDoorTotals.lean).
  GIVEN WITH THE SEED: the statements are not yours to turn. If you find one false, say at which input.
  Laid BY PROGRAM, IN A SANDBOX (cutbox-rows.mjs): the forced cells as the released guide's own fill.sh prints them over the translation b0d6513edf9f9b92… (all of the seat's roots in one cut). By AI agents, Wed Nov 11 2026. No macro, syntax, notation, axiom, sorry.
-/
import Derived.Test.YoefswDoorChecked
import GoSem.PinnedTables
import GoSem.Claim
import GoSem.ClaimJoined
import GoSem.ClaimMapViews
import Derived.JoinedTies
import Derived.KernelRfl
namespace Go.Proofs.YoefswDoor
/- THE CELL 'sum', in the pinned program and in every row, IS THE sha256 OF THE DUMP (.gsa) THAT YoefswDoorProg.lean LOADS. Nothing in Lean hashes anything: it is a label: what it is worth is what the hold of that sum in a sandbox is worth. -/
noncomputable def Efsg.pinned : Pinned := { name := "yoefswdoor", sum := "b0d6513edf9f9b922a923e8bf9dcc54a7f31e4f0411507a0c58604d250c3fb86", checked := Efsg.checked }
namespace Rows
def none {H : Type} : Left H := { results := [], args := [] }

/- WHAT THE LISTED PACKAGE-LEVEL VARIABLES READ AS WHEN THE CALL BEGINS. Each datum BY PROGRAM (the guide's laid-datum.mjs) off the statement by which the dump's own 'gosem.cut.vars' lays the variable. In a bare row this is a premise. The card (YoefswDoorCards.lean) ties it to the program's text. -/
def laid_github_com_d5_tengo_v2_ErrStringLimit {H : Type} : DataW H := .iface "*errors.errorString" (.ptr (.agg [.lit (.string [101, 120, 99, 101, 101, 100, 105, 110, 103, 32, 115, 116, 114, 105, 110, 103, 32, 115, 105, 122, 101, 32, 108, 105, 109, 105, 116])]))
def laid_github_com_d5_tengo_v2_MaxStringLen {H : Type} : DataW H := .lit (.int .i64 2147483647)
def laid_unicode_utf8_acceptRanges {H : Type} : DataW H := .agg [.agg [.lit (.int .u8 128), .lit (.int .u8 191)], .agg [.lit (.int .u8 160), .lit (.int .u8 191)], .agg [.lit (.int .u8 128), .lit (.int .u8 159)], .agg [.lit (.int .u8 144), .lit (.int .u8 191)], .agg [.lit (.int .u8 128), .lit (.int .u8 143)], .agg [.lit (.int .u8 0), .lit (.int .u8 0)], .agg [.lit (.int .u8 0), .lit (.int .u8 0)], .agg [.lit (.int .u8 0), .lit (.int .u8 0)], .agg [.lit (.int .u8 0), .lit (.int .u8 0)], .agg [.lit (.int .u8 0), .lit (.int .u8 0)], .agg [.lit (.int .u8 0), .lit (.int .u8 0)], .agg [.lit (.int .u8 0), .lit (.int .u8 0)], .agg [.lit (.int .u8 0), .lit (.int .u8 0)], .agg [.lit (.int .u8 0), .lit (.int .u8 0)], .agg [.lit (.int .u8 0), .lit (.int .u8 0)], .agg [.lit (.int .u8 0), .lit (.int .u8 0)]]
/-- One of Go's own tables, pinned by name: the form's constant. -/
def laid_strconv_isGraphic : DataW Unit := Go.Pinned.isGraphic
/-- One of Go's own tables, pinned by name: the form's constant. -/
def laid_strconv_isNotPrint16 : DataW Unit := Go.Pinned.isNotPrint16
/-- One of Go's own tables, pinned by name: the form's constant. -/
def laid_strconv_isNotPrint32 : DataW Unit := Go.Pinned.isNotPrint32
/-- One of Go's own tables, pinned by name: the form's constant. -/
def laid_strconv_isPrint16 : DataW Unit := Go.Pinned.isPrint16
/-- One of Go's own tables, pinned by name: the form's constant. -/
def laid_strconv_isPrint32 : DataW Unit := Go.Pinned.isPrint32
/-- One of Go's own tables, pinned by name: the form's constant. -/
def laid_unicode_utf8_first : DataW Unit := Go.Pinned.utf8First

/-- 'zzlaws_root_b1.FnFmtSxMatchesHexModel': WHATEVER THE INPUT: true; the input reads as it did. -/
def fnFmtSxMatchesHexModelSpec : ChangeSpec := { name := "fnFmtSxMatchesHexModel", vars := ["github.com/d5/tengo/v2.MaxStringLen", "github.com/d5/tengo/v2.ErrStringLimit"], fn := fun _ => fun
  | [d1, d2, d3, d4, d5, d6, d7, d8, d9, d10, d11, g1, g2] => { results := [.lit (.bool true)], args := [d1, d2, d3, d4, d5, d6, d7, d8, d9, d10, d11], vars := [g1, g2] }
  | _ => none }
def fnFmtSxMatchesHexModelRow : OpenClaim := { program := "yoefswdoor", sum := "b0d6513edf9f9b922a923e8bf9dcc54a7f31e4f0411507a0c58604d250c3fb86", func := "github.com/d5/tengo/v2/zzlaws_root_b1.FnFmtSxMatchesHexModel", spec := "fnFmtSxMatchesHexModel", named := ["github.com/d5/tengo/v2.MaxStringLen", "github.com/d5/tengo/v2.ErrStringLimit"], ifaces := true, apart := false, laid := [("github.com/d5/tengo/v2.ErrStringLimit", laid_github_com_d5_tengo_v2_ErrStringLimit), ("github.com/d5/tengo/v2.MaxStringLen", laid_github_com_d5_tengo_v2_MaxStringLen)] }
def FnFmtSxMatchesHexModelSaid : Prop := fnFmtSxMatchesHexModelRow.holds Efsg.pinned (OpenSpec.ofChange fnFmtSxMatchesHexModelSpec)

/-- ITS FALSE NEIGHBOUR: 'it returns false'. Refute it at one input. -/
def fnFmtSxMatchesHexModelWrong : ChangeSpec := { name := "fnFmtSxMatchesHexModel", vars := ["github.com/d5/tengo/v2.MaxStringLen", "github.com/d5/tengo/v2.ErrStringLimit"], fn := fun _ => fun
  | [d1, d2, d3, d4, d5, d6, d7, d8, d9, d10, d11, g1, g2] => { results := [.lit (.bool false)], args := [d1, d2, d3, d4, d5, d6, d7, d8, d9, d10, d11], vars := [g1, g2] }
  | _ => none }
def FnFmtSxMatchesHexModelWrongFalsely : Prop := fnFmtSxMatchesHexModelRow.holds Efsg.pinned (OpenSpec.ofChange fnFmtSxMatchesHexModelWrong)

/-- 'zzlaws_root_b1.FnFmtSxPrecisionIsACut': WHATEVER THE INPUT: true; the input reads as it did. -/
def fnFmtSxPrecisionIsACutSpec : ChangeSpec := { name := "fnFmtSxPrecisionIsACut", vars := ["github.com/d5/tengo/v2.MaxStringLen", "github.com/d5/tengo/v2.ErrStringLimit"], fn := fun _ => fun
  | [d1, d2, d3, d4, d5, d6, d7, d8, d9, d10, g1, g2] => { results := [.lit (.bool true)], args := [d1, d2, d3, d4, d5, d6, d7, d8, d9, d10], vars := [g1, g2] }
  | _ => none }
def fnFmtSxPrecisionIsACutRow : OpenClaim := { program := "yoefswdoor", sum := "b0d6513edf9f9b922a923e8bf9dcc54a7f31e4f0411507a0c58604d250c3fb86", func := "github.com/d5/tengo/v2/zzlaws_root_b1.FnFmtSxPrecisionIsACut", spec := "fnFmtSxPrecisionIsACut", named := ["github.com/d5/tengo/v2.MaxStringLen", "github.com/d5/tengo/v2.ErrStringLimit"], ifaces := true, apart := false, laid := [("github.com/d5/tengo/v2.ErrStringLimit", laid_github_com_d5_tengo_v2_ErrStringLimit), ("github.com/d5/tengo/v2.MaxStringLen", laid_github_com_d5_tengo_v2_MaxStringLen)] }
def FnFmtSxPrecisionIsACutSaid : Prop := fnFmtSxPrecisionIsACutRow.holds Efsg.pinned (OpenSpec.ofChange fnFmtSxPrecisionIsACutSpec)

/-- ITS FALSE NEIGHBOUR: 'it returns false'. Refute it at one input. -/
def fnFmtSxPrecisionIsACutWrong : ChangeSpec := { name := "fnFmtSxPrecisionIsACut", vars := ["github.com/d5/tengo/v2.MaxStringLen", "github.com/d5/tengo/v2.ErrStringLimit"], fn := fun _ => fun
  | [d1, d2, d3, d4, d5, d6, d7, d8, d9, d10, g1, g2] => { results := [.lit (.bool false)], args := [d1, d2, d3, d4, d5, d6, d7, d8, d9, d10], vars := [g1, g2] }
  | _ => none }
def FnFmtSxPrecisionIsACutWrongFalsely : Prop := fnFmtSxPrecisionIsACutRow.holds Efsg.pinned (OpenSpec.ofChange fnFmtSxPrecisionIsACutWrong)

/-- 'zzlaws_root_b1.FnFmtBxMatchesHexModel': WHATEVER THE INPUT: true; the input reads as it did. -/
def fnFmtBxMatchesHexModelSpec : ChangeSpec := { name := "fnFmtBxMatchesHexModel", vars := ["github.com/d5/tengo/v2.MaxStringLen", "github.com/d5/tengo/v2.ErrStringLimit"], fn := fun _ => fun
  | [d1, d2, d3, d4, d5, d6, d7, d8, d9, d10, d11, g1, g2] => { results := [.lit (.bool true)], args := [d1, d2, d3, d4, d5, d6, d7, d8, d9, d10, d11], vars := [g1, g2] }
  | _ => none }
def fnFmtBxMatchesHexModelRow : OpenClaim := { program := "yoefswdoor", sum := "b0d6513edf9f9b922a923e8bf9dcc54a7f31e4f0411507a0c58604d250c3fb86", func := "github.com/d5/tengo/v2/zzlaws_root_b1.FnFmtBxMatchesHexModel", spec := "fnFmtBxMatchesHexModel", named := ["github.com/d5/tengo/v2.MaxStringLen", "github.com/d5/tengo/v2.ErrStringLimit"], ifaces := true, apart := false, laid := [("github.com/d5/tengo/v2.ErrStringLimit", laid_github_com_d5_tengo_v2_ErrStringLimit), ("github.com/d5/tengo/v2.MaxStringLen", laid_github_com_d5_tengo_v2_MaxStringLen)] }
def FnFmtBxMatchesHexModelSaid : Prop := fnFmtBxMatchesHexModelRow.holds Efsg.pinned (OpenSpec.ofChange fnFmtBxMatchesHexModelSpec)

/-- ITS FALSE NEIGHBOUR: 'it returns false'. Refute it at one input. -/
def fnFmtBxMatchesHexModelWrong : ChangeSpec := { name := "fnFmtBxMatchesHexModel", vars := ["github.com/d5/tengo/v2.MaxStringLen", "github.com/d5/tengo/v2.ErrStringLimit"], fn := fun _ => fun
  | [d1, d2, d3, d4, d5, d6, d7, d8, d9, d10, d11, g1, g2] => { results := [.lit (.bool false)], args := [d1, d2, d3, d4, d5, d6, d7, d8, d9, d10, d11], vars := [g1, g2] }
  | _ => none }
def FnFmtBxMatchesHexModelWrongFalsely : Prop := fnFmtBxMatchesHexModelRow.holds Efsg.pinned (OpenSpec.ofChange fnFmtBxMatchesHexModelWrong)

/-- 'zzlaws_root_b1.FnFmtBxAgreesWithFmtSx': WHATEVER THE INPUT: true; the input reads as it did. -/
def fnFmtBxAgreesWithFmtSxSpec : ChangeSpec := { name := "fnFmtBxAgreesWithFmtSx", vars := ["github.com/d5/tengo/v2.MaxStringLen", "github.com/d5/tengo/v2.ErrStringLimit"], fn := fun _ => fun
  | [d1, d2, d3, d4, d5, d6, d7, d8, d9, d10, d11, g1, g2] => { results := [.lit (.bool true)], args := [d1, d2, d3, d4, d5, d6, d7, d8, d9, d10, d11], vars := [g1, g2] }
  | _ => none }
def fnFmtBxAgreesWithFmtSxRow : OpenClaim := { program := "yoefswdoor", sum := "b0d6513edf9f9b922a923e8bf9dcc54a7f31e4f0411507a0c58604d250c3fb86", func := "github.com/d5/tengo/v2/zzlaws_root_b1.FnFmtBxAgreesWithFmtSx", spec := "fnFmtBxAgreesWithFmtSx", named := ["github.com/d5/tengo/v2.MaxStringLen", "github.com/d5/tengo/v2.ErrStringLimit"], ifaces := true, apart := false, laid := [("github.com/d5/tengo/v2.ErrStringLimit", laid_github_com_d5_tengo_v2_ErrStringLimit), ("github.com/d5/tengo/v2.MaxStringLen", laid_github_com_d5_tengo_v2_MaxStringLen)] }
def FnFmtBxAgreesWithFmtSxSaid : Prop := fnFmtBxAgreesWithFmtSxRow.holds Efsg.pinned (OpenSpec.ofChange fnFmtBxAgreesWithFmtSxSpec)

/-- ITS FALSE NEIGHBOUR: 'it returns false'. Refute it at one input. -/
def fnFmtBxAgreesWithFmtSxWrong : ChangeSpec := { name := "fnFmtBxAgreesWithFmtSx", vars := ["github.com/d5/tengo/v2.MaxStringLen", "github.com/d5/tengo/v2.ErrStringLimit"], fn := fun _ => fun
  | [d1, d2, d3, d4, d5, d6, d7, d8, d9, d10, d11, g1, g2] => { results := [.lit (.bool false)], args := [d1, d2, d3, d4, d5, d6, d7, d8, d9, d10, d11], vars := [g1, g2] }
  | _ => none }
def FnFmtBxAgreesWithFmtSxWrongFalsely : Prop := fnFmtBxAgreesWithFmtSxRow.holds Efsg.pinned (OpenSpec.ofChange fnFmtBxAgreesWithFmtSxWrong)

/-- 'zzlaws_root_b1.FnFmtQASCIIMatchesQuoteModel': WHATEVER THE INPUT: true; the input reads as it did. -/
def fnFmtQASCIIMatchesQuoteModelSpec : ChangeSpec := { name := "fnFmtQASCIIMatchesQuoteModel", vars := ["github.com/d5/tengo/v2.MaxStringLen", "github.com/d5/tengo/v2.ErrStringLimit"], fn := fun _ => fun
  | [d1, d2, d3, d4, d5, d6, d7, d8, d9, g1, g2] => { results := [.lit (.bool true)], args := [d1, d2, d3, d4, d5, d6, d7, d8, d9], vars := [g1, g2] }
  | _ => none }
def fnFmtQASCIIMatchesQuoteModelRow : OpenClaim := { program := "yoefswdoor", sum := "b0d6513edf9f9b922a923e8bf9dcc54a7f31e4f0411507a0c58604d250c3fb86", func := "github.com/d5/tengo/v2/zzlaws_root_b1.FnFmtQASCIIMatchesQuoteModel", spec := "fnFmtQASCIIMatchesQuoteModel", named := ["unicode/utf8.first", "unicode/utf8.acceptRanges", "github.com/d5/tengo/v2.MaxStringLen", "github.com/d5/tengo/v2.ErrStringLimit", "strconv.isPrint16", "strconv.isNotPrint16", "strconv.isPrint32", "strconv.isNotPrint32", "strconv.isGraphic"], ifaces := true, apart := false, laid := [("unicode/utf8.acceptRanges", laid_unicode_utf8_acceptRanges), ("github.com/d5/tengo/v2.ErrStringLimit", laid_github_com_d5_tengo_v2_ErrStringLimit), ("github.com/d5/tengo/v2.MaxStringLen", laid_github_com_d5_tengo_v2_MaxStringLen), ("strconv.isGraphic", laid_strconv_isGraphic), ("strconv.isNotPrint16", laid_strconv_isNotPrint16), ("strconv.isNotPrint32", laid_strconv_isNotPrint32), ("strconv.isPrint16", laid_strconv_isPrint16), ("strconv.isPrint32", laid_strconv_isPrint32), ("unicode/utf8.first", laid_unicode_utf8_first)] }
def FnFmtQASCIIMatchesQuoteModelSaid : Prop := fnFmtQASCIIMatchesQuoteModelRow.holds Efsg.pinned (OpenSpec.ofChange fnFmtQASCIIMatchesQuoteModelSpec)

/-- ITS FALSE NEIGHBOUR: 'it returns false'. Refute it at one input. -/
def fnFmtQASCIIMatchesQuoteModelWrong : ChangeSpec := { name := "fnFmtQASCIIMatchesQuoteModel", vars := ["github.com/d5/tengo/v2.MaxStringLen", "github.com/d5/tengo/v2.ErrStringLimit"], fn := fun _ => fun
  | [d1, d2, d3, d4, d5, d6, d7, d8, d9, g1, g2] => { results := [.lit (.bool false)], args := [d1, d2, d3, d4, d5, d6, d7, d8, d9], vars := [g1, g2] }
  | _ => none }
def FnFmtQASCIIMatchesQuoteModelWrongFalsely : Prop := fnFmtQASCIIMatchesQuoteModelRow.holds Efsg.pinned (OpenSpec.ofChange fnFmtQASCIIMatchesQuoteModelWrong)

/-- 'zzlaws_root_b1.FnFmtQPlusIsPrintableASCII': WHATEVER THE INPUT: true; the input reads as it did. -/
def fnFmtQPlusIsPrintableASCIISpec : ChangeSpec := { name := "fnFmtQPlusIsPrintableASCII", vars := ["github.com/d5/tengo/v2.MaxStringLen", "github.com/d5/tengo/v2.ErrStringLimit"], fn := fun _ => fun
  | [d1, d2, d3, g1, g2] => { results := [.lit (.bool true)], args := [d1, d2, d3], vars := [g1, g2] }
  | _ => none }
def fnFmtQPlusIsPrintableASCIIRow : OpenClaim := { program := "yoefswdoor", sum := "b0d6513edf9f9b922a923e8bf9dcc54a7f31e4f0411507a0c58604d250c3fb86", func := "github.com/d5/tengo/v2/zzlaws_root_b1.FnFmtQPlusIsPrintableASCII", spec := "fnFmtQPlusIsPrintableASCII", named := ["unicode/utf8.first", "unicode/utf8.acceptRanges", "github.com/d5/tengo/v2.MaxStringLen", "github.com/d5/tengo/v2.ErrStringLimit", "strconv.isPrint16", "strconv.isNotPrint16", "strconv.isPrint32", "strconv.isNotPrint32", "strconv.isGraphic"], ifaces := true, apart := false, laid := [("unicode/utf8.acceptRanges", laid_unicode_utf8_acceptRanges), ("github.com/d5/tengo/v2.ErrStringLimit", laid_github_com_d5_tengo_v2_ErrStringLimit), ("github.com/d5/tengo/v2.MaxStringLen", laid_github_com_d5_tengo_v2_MaxStringLen), ("strconv.isGraphic", laid_strconv_isGraphic), ("strconv.isNotPrint16", laid_strconv_isNotPrint16), ("strconv.isNotPrint32", laid_strconv_isNotPrint32), ("strconv.isPrint16", laid_strconv_isPrint16), ("strconv.isPrint32", laid_strconv_isPrint32), ("unicode/utf8.first", laid_unicode_utf8_first)] }
def FnFmtQPlusIsPrintableASCIISaid : Prop := fnFmtQPlusIsPrintableASCIIRow.holds Efsg.pinned (OpenSpec.ofChange fnFmtQPlusIsPrintableASCIISpec)

/-- ITS FALSE NEIGHBOUR: 'it returns false'. Refute it at one input. -/
def fnFmtQPlusIsPrintableASCIIWrong : ChangeSpec := { name := "fnFmtQPlusIsPrintableASCII", vars := ["github.com/d5/tengo/v2.MaxStringLen", "github.com/d5/tengo/v2.ErrStringLimit"], fn := fun _ => fun
  | [d1, d2, d3, g1, g2] => { results := [.lit (.bool false)], args := [d1, d2, d3], vars := [g1, g2] }
  | _ => none }
def FnFmtQPlusIsPrintableASCIIWrongFalsely : Prop := fnFmtQPlusIsPrintableASCIIRow.holds Efsg.pinned (OpenSpec.ofChange fnFmtQPlusIsPrintableASCIIWrong)

/-- 'zzlaws_root_b1.FnFmtCMatchesUTF8Model': WHATEVER THE INPUT: true; the input reads as it did. -/
def fnFmtCMatchesUTF8ModelSpec : ChangeSpec := { name := "fnFmtCMatchesUTF8Model", vars := ["github.com/d5/tengo/v2.MaxStringLen", "github.com/d5/tengo/v2.ErrStringLimit"], fn := fun _ => fun
  | [d1, d2, d3, d4, d5, g1, g2] => { results := [.lit (.bool true)], args := [d1, d2, d3, d4, d5], vars := [g1, g2] }
  | _ => none }
def fnFmtCMatchesUTF8ModelRow : OpenClaim := { program := "yoefswdoor", sum := "b0d6513edf9f9b922a923e8bf9dcc54a7f31e4f0411507a0c58604d250c3fb86", func := "github.com/d5/tengo/v2/zzlaws_root_b1.FnFmtCMatchesUTF8Model", spec := "fnFmtCMatchesUTF8Model", named := ["github.com/d5/tengo/v2.MaxStringLen", "github.com/d5/tengo/v2.ErrStringLimit"], ifaces := true, apart := false, laid := [("github.com/d5/tengo/v2.ErrStringLimit", laid_github_com_d5_tengo_v2_ErrStringLimit), ("github.com/d5/tengo/v2.MaxStringLen", laid_github_com_d5_tengo_v2_MaxStringLen)] }
def FnFmtCMatchesUTF8ModelSaid : Prop := fnFmtCMatchesUTF8ModelRow.holds Efsg.pinned (OpenSpec.ofChange fnFmtCMatchesUTF8ModelSpec)

/-- ITS FALSE NEIGHBOUR: 'it returns false'. Refute it at one input. -/
def fnFmtCMatchesUTF8ModelWrong : ChangeSpec := { name := "fnFmtCMatchesUTF8Model", vars := ["github.com/d5/tengo/v2.MaxStringLen", "github.com/d5/tengo/v2.ErrStringLimit"], fn := fun _ => fun
  | [d1, d2, d3, d4, d5, g1, g2] => { results := [.lit (.bool false)], args := [d1, d2, d3, d4, d5], vars := [g1, g2] }
  | _ => none }
def FnFmtCMatchesUTF8ModelWrongFalsely : Prop := fnFmtCMatchesUTF8ModelRow.holds Efsg.pinned (OpenSpec.ofChange fnFmtCMatchesUTF8ModelWrong)

/-- 'zzlaws_root_b1.FnFmtCInjectiveOnScalars': WHATEVER THE INPUT: true; the input reads as it did. -/
def fnFmtCInjectiveOnScalarsSpec : ChangeSpec := { name := "fnFmtCInjectiveOnScalars", vars := ["github.com/d5/tengo/v2.MaxStringLen", "github.com/d5/tengo/v2.ErrStringLimit"], fn := fun _ => fun
  | [d1, d2, g1, g2] => { results := [.lit (.bool true)], args := [d1, d2], vars := [g1, g2] }
  | _ => none }
def fnFmtCInjectiveOnScalarsRow : OpenClaim := { program := "yoefswdoor", sum := "b0d6513edf9f9b922a923e8bf9dcc54a7f31e4f0411507a0c58604d250c3fb86", func := "github.com/d5/tengo/v2/zzlaws_root_b1.FnFmtCInjectiveOnScalars", spec := "fnFmtCInjectiveOnScalars", named := ["github.com/d5/tengo/v2.MaxStringLen", "github.com/d5/tengo/v2.ErrStringLimit"], ifaces := true, apart := false, laid := [("github.com/d5/tengo/v2.ErrStringLimit", laid_github_com_d5_tengo_v2_ErrStringLimit), ("github.com/d5/tengo/v2.MaxStringLen", laid_github_com_d5_tengo_v2_MaxStringLen)] }
def FnFmtCInjectiveOnScalarsSaid : Prop := fnFmtCInjectiveOnScalarsRow.holds Efsg.pinned (OpenSpec.ofChange fnFmtCInjectiveOnScalarsSpec)

/-- ITS FALSE NEIGHBOUR: 'it returns false'. Refute it at one input. -/
def fnFmtCInjectiveOnScalarsWrong : ChangeSpec := { name := "fnFmtCInjectiveOnScalars", vars := ["github.com/d5/tengo/v2.MaxStringLen", "github.com/d5/tengo/v2.ErrStringLimit"], fn := fun _ => fun
  | [d1, d2, g1, g2] => { results := [.lit (.bool false)], args := [d1, d2], vars := [g1, g2] }
  | _ => none }
def FnFmtCInjectiveOnScalarsWrongFalsely : Prop := fnFmtCInjectiveOnScalarsRow.holds Efsg.pinned (OpenSpec.ofChange fnFmtCInjectiveOnScalarsWrong)

end Rows
end Go.Proofs.YoefswDoor
