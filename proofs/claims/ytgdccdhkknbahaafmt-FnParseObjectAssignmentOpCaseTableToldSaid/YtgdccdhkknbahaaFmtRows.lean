/-
  NARROWER THAN 'FOR EVERY INPUT', by the rows' own cells (each row's printed sentence says how): FnTokenStringToAstEscapesCompose: laid · FnTokenStringToAstCaseTable: laid.
  DERIVED. THE GIVEN ROWS OF THIS SEAT. 4 by the template 'for every input the law returns true; each argument reads behind the call as it read before'; 0 by the template 'total and deterministic' (their statements: YtgdccdhkknbahaaFmtTotals.lean).
  GIVEN WITH THE SEED: the statements are not yours to turn. If you find one false, say at which input.
  Laid BY PROGRAM, IN A SANDBOX (cutbox-rows.mjs): the forced cells as the released guide's own fill.sh prints them over the translation 6c29718c850af00e… (all of the seat's roots in one cut). By AI agents, Wed Nov 11 2026. No macro, syntax, notation, axiom, sorry.
-/
import Derived.Test.YtgdccdhkknbahaaFmtChecked
import GoSem.PinnedTables
import GoSem.Claim
import GoSem.ClaimJoined
import GoSem.ClaimMapViews
import Derived.JoinedTies
import Derived.KernelRfl
namespace Go.Proofs.YtgdccdhkknbahaaFmt
/- THE CELL 'sum', in the pinned program and in every row, IS THE sha256 OF THE DUMP (.gsa) THAT YtgdccdhkknbahaaFmtProg.lean LOADS. Nothing in Lean hashes anything: it is a label: what it is worth is what the hold of that sum in a sandbox is worth. -/
noncomputable def Tryf.pinned : Pinned := { name := "ytgdccdhkknbahaafmt", sum := "6c29718c850af00ed74163655dc129cd0f80bd6c9b56ce2b52cbafa96923e93d", checked := Tryf.checked }
namespace Rows
def none {H : Type} : Left H := { results := [], args := [] }

/- WHAT THE LISTED PACKAGE-LEVEL VARIABLES READ AS WHEN THE CALL BEGINS. Each datum BY PROGRAM (the guide's laid-datum.mjs) off the statement by which the dump's own 'gosem.cut.vars' lays the variable. In a bare row this is a premise. The card (YtgdccdhkknbahaaFmtCards.lean) ties it to the program's text. -/
def laid_unicode_utf8_acceptRanges {H : Type} : DataW H := .agg [.agg [.lit (.int .u8 128), .lit (.int .u8 191)], .agg [.lit (.int .u8 160), .lit (.int .u8 191)], .agg [.lit (.int .u8 128), .lit (.int .u8 159)], .agg [.lit (.int .u8 144), .lit (.int .u8 191)], .agg [.lit (.int .u8 128), .lit (.int .u8 143)], .agg [.lit (.int .u8 0), .lit (.int .u8 0)], .agg [.lit (.int .u8 0), .lit (.int .u8 0)], .agg [.lit (.int .u8 0), .lit (.int .u8 0)], .agg [.lit (.int .u8 0), .lit (.int .u8 0)], .agg [.lit (.int .u8 0), .lit (.int .u8 0)], .agg [.lit (.int .u8 0), .lit (.int .u8 0)], .agg [.lit (.int .u8 0), .lit (.int .u8 0)], .agg [.lit (.int .u8 0), .lit (.int .u8 0)], .agg [.lit (.int .u8 0), .lit (.int .u8 0)], .agg [.lit (.int .u8 0), .lit (.int .u8 0)], .agg [.lit (.int .u8 0), .lit (.int .u8 0)]]
def laid_bytes_ErrTooLarge {H : Type} : DataW H := .iface "*errors.errorString" (.ptr (.agg [.lit (.string [98, 121, 116, 101, 115, 46, 66, 117, 102, 102, 101, 114, 58, 32, 116, 111, 111, 32, 108, 97, 114, 103, 101])]))
def laid_encoding_hex_ErrLength {H : Type} : DataW H := .iface "*errors.errorString" (.ptr (.agg [.lit (.string [101, 110, 99, 111, 100, 105, 110, 103, 47, 104, 101, 120, 58, 32, 111, 100, 100, 32, 108, 101, 110, 103, 116, 104, 32, 104, 101, 120, 32, 115, 116, 114, 105, 110, 103])]))
/-- One of Go's own tables, pinned by name: the form's constant. -/
def laid_unicode_utf8_first : DataW Unit := Go.Pinned.utf8First

/-- 'n008_160.FnTokenStringToAstEscapesCompose': WHATEVER THE INPUT: true; the input reads as it did. -/
def fnTokenStringToAstEscapesComposeSpec : ChangeSpec := { name := "fnTokenStringToAstEscapesCompose", fn := fun _ => fun
  | [d1, d2] => { results := [.lit (.bool true)], args := [d1, d2] }
  | _ => none }
def fnTokenStringToAstEscapesComposeRow : OpenClaim := { program := "ytgdccdhkknbahaafmt", sum := "6c29718c850af00ed74163655dc129cd0f80bd6c9b56ce2b52cbafa96923e93d", func := "github.com/google/go-jsonnet/n008_160.FnTokenStringToAstEscapesCompose", spec := "fnTokenStringToAstEscapesCompose", stops := ["fmt.Sprintf, its operands' methods called"], inPlace := ["fmt.Sprintf"], unfollowed := true, recurses := true, named := ["unicode/utf8.first", "unicode/utf8.acceptRanges", "bytes.ErrTooLarge", "encoding/hex.ErrLength"], apart := false, laid := [("unicode/utf8.acceptRanges", laid_unicode_utf8_acceptRanges), ("bytes.ErrTooLarge", laid_bytes_ErrTooLarge), ("encoding/hex.ErrLength", laid_encoding_hex_ErrLength), ("unicode/utf8.first", laid_unicode_utf8_first)] }
/-- NO THEOREM (fmt's text is open here; it may be false): for the released tool's asking of the row's closed facts alone. THE STATEMENT IS 'FnTokenStringToAstEscapesComposeToldSaid' (YtgdccdhkknbahaaFmtCards.lean). -/
def FnTokenStringToAstEscapesComposeFormAsk : Prop := fnTokenStringToAstEscapesComposeRow.holds Tryf.pinned (OpenSpec.ofChange fnTokenStringToAstEscapesComposeSpec)

/-- ITS FALSE NEIGHBOUR: 'it returns false'. Refute it at one input. -/
def fnTokenStringToAstEscapesComposeWrong : ChangeSpec := { name := "fnTokenStringToAstEscapesCompose", fn := fun _ => fun
  | [d1, d2] => { results := [.lit (.bool false)], args := [d1, d2] }
  | _ => none }
def FnTokenStringToAstEscapesComposeWrongFormAsk : Prop := fnTokenStringToAstEscapesComposeRow.holds Tryf.pinned (OpenSpec.ofChange fnTokenStringToAstEscapesComposeWrong)

/-- 'n008_160.FnTokenStringToAstCaseTable': WHATEVER THE INPUT: true; the input reads as it did. -/
def fnTokenStringToAstCaseTableSpec : ChangeSpec := { name := "fnTokenStringToAstCaseTable", fn := fun _ => fun
  | [d1, d2, d3, d4] => { results := [.lit (.bool true)], args := [d1, d2, d3, d4] }
  | _ => none }
def fnTokenStringToAstCaseTableRow : OpenClaim := { program := "ytgdccdhkknbahaafmt", sum := "6c29718c850af00ed74163655dc129cd0f80bd6c9b56ce2b52cbafa96923e93d", func := "github.com/google/go-jsonnet/n008_160.FnTokenStringToAstCaseTable", spec := "fnTokenStringToAstCaseTable", stops := ["fmt.Sprintf, its operands' methods called"], inPlace := ["fmt.Sprintf"], unfollowed := true, recurses := true, named := ["unicode/utf8.first", "unicode/utf8.acceptRanges", "bytes.ErrTooLarge", "encoding/hex.ErrLength"], apart := false, laid := [("unicode/utf8.acceptRanges", laid_unicode_utf8_acceptRanges), ("bytes.ErrTooLarge", laid_bytes_ErrTooLarge), ("encoding/hex.ErrLength", laid_encoding_hex_ErrLength), ("unicode/utf8.first", laid_unicode_utf8_first)] }
/-- NO THEOREM (fmt's text is open here; it may be false): for the released tool's asking of the row's closed facts alone. THE STATEMENT IS 'FnTokenStringToAstCaseTableToldSaid' (YtgdccdhkknbahaaFmtCards.lean). -/
def FnTokenStringToAstCaseTableFormAsk : Prop := fnTokenStringToAstCaseTableRow.holds Tryf.pinned (OpenSpec.ofChange fnTokenStringToAstCaseTableSpec)

/-- ITS FALSE NEIGHBOUR: 'it returns false'. Refute it at one input. -/
def fnTokenStringToAstCaseTableWrong : ChangeSpec := { name := "fnTokenStringToAstCaseTable", fn := fun _ => fun
  | [d1, d2, d3, d4] => { results := [.lit (.bool false)], args := [d1, d2, d3, d4] }
  | _ => none }
def FnTokenStringToAstCaseTableWrongFormAsk : Prop := fnTokenStringToAstCaseTableRow.holds Tryf.pinned (OpenSpec.ofChange fnTokenStringToAstCaseTableWrong)

/-- 'n008_138.FnParseObjectAssignmentOpCaseTable': WHATEVER THE INPUT: true; the input reads as it did. -/
def fnParseObjectAssignmentOpCaseTableSpec : ChangeSpec := { name := "fnParseObjectAssignmentOpCaseTable", fn := fun _ => fun
  | [d] => { results := [.lit (.bool true)], args := [d] }
  | _ => none }
def fnParseObjectAssignmentOpCaseTableRow : OpenClaim := { program := "ytgdccdhkknbahaafmt", sum := "6c29718c850af00ed74163655dc129cd0f80bd6c9b56ce2b52cbafa96923e93d", func := "github.com/google/go-jsonnet/n008_138.FnParseObjectAssignmentOpCaseTable", spec := "fnParseObjectAssignmentOpCaseTable", stops := ["fmt.Sprintf, its operands' methods called"], inPlace := ["fmt.Sprintf"], unfollowed := true, recurses := true, apart := false }
/-- NO THEOREM (fmt's text is open here; it may be false): for the released tool's asking of the row's closed facts alone. THE STATEMENT IS 'FnParseObjectAssignmentOpCaseTableToldSaid' (YtgdccdhkknbahaaFmtCards.lean). -/
def FnParseObjectAssignmentOpCaseTableFormAsk : Prop := fnParseObjectAssignmentOpCaseTableRow.holds Tryf.pinned (OpenSpec.ofChange fnParseObjectAssignmentOpCaseTableSpec)

/-- ITS FALSE NEIGHBOUR: 'it returns false'. Refute it at one input. -/
def fnParseObjectAssignmentOpCaseTableWrong : ChangeSpec := { name := "fnParseObjectAssignmentOpCaseTable", fn := fun _ => fun
  | [d] => { results := [.lit (.bool false)], args := [d] }
  | _ => none }
def FnParseObjectAssignmentOpCaseTableWrongFormAsk : Prop := fnParseObjectAssignmentOpCaseTableRow.holds Tryf.pinned (OpenSpec.ofChange fnParseObjectAssignmentOpCaseTableWrong)

/-- 'n008_34.FnPeekAgreesWithPop': WHATEVER THE INPUT: true; the input reads as it did. -/
def fnPeekAgreesWithPopSpec : ChangeSpec := { name := "fnPeekAgreesWithPop", fn := fun _ => fun
  | [d1, d2, d3] => { results := [.lit (.bool true)], args := [d1, d2, d3] }
  | _ => none }
def fnPeekAgreesWithPopRow : OpenClaim := { program := "ytgdccdhkknbahaafmt", sum := "6c29718c850af00ed74163655dc129cd0f80bd6c9b56ce2b52cbafa96923e93d", func := "github.com/google/go-jsonnet/n008_34.FnPeekAgreesWithPop", spec := "fnPeekAgreesWithPop", stops := ["fmt.Sprintf, its operands' methods called"], inPlace := ["fmt.Sprintf"], unfollowed := true, recurses := true, apart := false }
/-- NO THEOREM (fmt's text is open here; it may be false): for the released tool's asking of the row's closed facts alone. THE STATEMENT IS 'FnPeekAgreesWithPopToldSaid' (YtgdccdhkknbahaaFmtCards.lean). -/
def FnPeekAgreesWithPopFormAsk : Prop := fnPeekAgreesWithPopRow.holds Tryf.pinned (OpenSpec.ofChange fnPeekAgreesWithPopSpec)

/-- ITS FALSE NEIGHBOUR: 'it returns false'. Refute it at one input. -/
def fnPeekAgreesWithPopWrong : ChangeSpec := { name := "fnPeekAgreesWithPop", fn := fun _ => fun
  | [d1, d2, d3] => { results := [.lit (.bool false)], args := [d1, d2, d3] }
  | _ => none }
def FnPeekAgreesWithPopWrongFormAsk : Prop := fnPeekAgreesWithPopRow.holds Tryf.pinned (OpenSpec.ofChange fnPeekAgreesWithPopWrong)

end Rows
end Go.Proofs.YtgdccdhkknbahaaFmt
