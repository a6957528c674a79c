/-
  NARROWER THAN 'FOR EVERY INPUT', by the rows' own cells (each row's printed sentence says how): FnTokenStringToAstEscapesCompose: laid · FnTokenStringToAstCaseTable: laid · FnLexSymbolCommentMatchesModel: laid.
  DERIVED. THE GIVEN ROWS OF THIS SEAT. 3 by the template 'for every input the law returns true; each argument reads behind the call as it read before'; 0 by the template 'total and deterministic' (their statements: YtgdlfcgboghadaaFmtTotals.lean).
  GIVEN WITH THE SEED: the statements are not yours to turn. If you find one false, say at which input.
  Laid BY PROGRAM, IN A SANDBOX (cutbox-rows.mjs): the forced cells as the released guide's own fill.sh prints them over the translation d2d8203417d0ec56… (all of the seat's roots in one cut). By AI agents, Wed Nov 11 2026. No macro, syntax, notation, axiom, sorry.
-/
import Derived.Test.YtgdlfcgboghadaaFmtChecked
import GoSem.PinnedTables
import GoSem.Claim
import GoSem.ClaimJoined
import GoSem.ClaimMapViews
import Derived.JoinedTies
import Derived.KernelRfl
namespace Go.Proofs.YtgdlfcgboghadaaFmt
/- THE CELL 'sum', in the pinned program and in every row, IS THE sha256 OF THE DUMP (.gsa) THAT YtgdlfcgboghadaaFmtProg.lean LOADS. Nothing in Lean hashes anything: it is a label: what it is worth is what the hold of that sum in a sandbox is worth. -/
noncomputable def Tryf.pinned : Pinned := { name := "ytgdlfcgboghadaafmt", sum := "d2d8203417d0ec56d2802fe5d651d741db478a601197f1c461a58d5107e0a7b1", checked := Tryf.checked }
namespace Rows
def none {H : Type} : Left H := { results := [], args := [] }

/- WHAT THE LISTED PACKAGE-LEVEL VARIABLES READ AS WHEN THE CALL BEGINS. Each datum BY PROGRAM (the guide's laid-datum.mjs) off the statement by which the dump's own 'gosem.cut.vars' lays the variable. In a bare row this is a premise. The card (YtgdlfcgboghadaaFmtCards.lean) ties it to the program's text. -/
def laid_unicode_utf8_acceptRanges {H : Type} : DataW H := .agg [.agg [.lit (.int .u8 128), .lit (.int .u8 191)], .agg [.lit (.int .u8 160), .lit (.int .u8 191)], .agg [.lit (.int .u8 128), .lit (.int .u8 159)], .agg [.lit (.int .u8 144), .lit (.int .u8 191)], .agg [.lit (.int .u8 128), .lit (.int .u8 143)], .agg [.lit (.int .u8 0), .lit (.int .u8 0)], .agg [.lit (.int .u8 0), .lit (.int .u8 0)], .agg [.lit (.int .u8 0), .lit (.int .u8 0)], .agg [.lit (.int .u8 0), .lit (.int .u8 0)], .agg [.lit (.int .u8 0), .lit (.int .u8 0)], .agg [.lit (.int .u8 0), .lit (.int .u8 0)], .agg [.lit (.int .u8 0), .lit (.int .u8 0)], .agg [.lit (.int .u8 0), .lit (.int .u8 0)], .agg [.lit (.int .u8 0), .lit (.int .u8 0)], .agg [.lit (.int .u8 0), .lit (.int .u8 0)], .agg [.lit (.int .u8 0), .lit (.int .u8 0)]]
def laid_bytes_ErrTooLarge {H : Type} : DataW H := .iface "*errors.errorString" (.ptr (.agg [.lit (.string [98, 121, 116, 101, 115, 46, 66, 117, 102, 102, 101, 114, 58, 32, 116, 111, 111, 32, 108, 97, 114, 103, 101])]))
def laid_encoding_hex_ErrLength {H : Type} : DataW H := .iface "*errors.errorString" (.ptr (.agg [.lit (.string [101, 110, 99, 111, 100, 105, 110, 103, 47, 104, 101, 120, 58, 32, 111, 100, 100, 32, 108, 101, 110, 103, 116, 104, 32, 104, 101, 120, 32, 115, 116, 114, 105, 110, 103])]))
/-- One of Go's own tables, pinned by name: the form's constant. -/
def laid_unicode_utf8_first : DataW Unit := Go.Pinned.utf8First

/-- 'n008_160.FnTokenStringToAstEscapesCompose': WHATEVER THE INPUT: true; the input reads as it did. -/
def fnTokenStringToAstEscapesComposeSpec : ChangeSpec := { name := "fnTokenStringToAstEscapesCompose", fn := fun _ => fun
  | [d1, d2] => { results := [.lit (.bool true)], args := [d1, d2] }
  | _ => none }
def fnTokenStringToAstEscapesComposeRow : OpenClaim := { program := "ytgdlfcgboghadaafmt", sum := "d2d8203417d0ec56d2802fe5d651d741db478a601197f1c461a58d5107e0a7b1", func := "github.com/google/go-jsonnet/n008_160.FnTokenStringToAstEscapesCompose", spec := "fnTokenStringToAstEscapesCompose", stops := ["fmt.Sprintf, its operands' methods called"], inPlace := ["fmt.Sprintf"], unfollowed := true, recurses := true, named := ["unicode/utf8.first", "unicode/utf8.acceptRanges", "bytes.ErrTooLarge", "encoding/hex.ErrLength"], apart := false, laid := [("unicode/utf8.acceptRanges", laid_unicode_utf8_acceptRanges), ("bytes.ErrTooLarge", laid_bytes_ErrTooLarge), ("encoding/hex.ErrLength", laid_encoding_hex_ErrLength), ("unicode/utf8.first", laid_unicode_utf8_first)] }
/-- NO THEOREM (fmt's text is open here; it may be false): for the released tool's asking of the row's closed facts alone. THE STATEMENT IS 'FnTokenStringToAstEscapesComposeToldSaid' (YtgdlfcgboghadaaFmtCards.lean). -/
def FnTokenStringToAstEscapesComposeFormAsk : Prop := fnTokenStringToAstEscapesComposeRow.holds Tryf.pinned (OpenSpec.ofChange fnTokenStringToAstEscapesComposeSpec)

/-- ITS FALSE NEIGHBOUR: 'it returns false'. Refute it at one input. -/
def fnTokenStringToAstEscapesComposeWrong : ChangeSpec := { name := "fnTokenStringToAstEscapesCompose", fn := fun _ => fun
  | [d1, d2] => { results := [.lit (.bool false)], args := [d1, d2] }
  | _ => none }
def FnTokenStringToAstEscapesComposeWrongFormAsk : Prop := fnTokenStringToAstEscapesComposeRow.holds Tryf.pinned (OpenSpec.ofChange fnTokenStringToAstEscapesComposeWrong)

/-- 'n008_160.FnTokenStringToAstCaseTable': WHATEVER THE INPUT: true; the input reads as it did. -/
def fnTokenStringToAstCaseTableSpec : ChangeSpec := { name := "fnTokenStringToAstCaseTable", fn := fun _ => fun
  | [d1, d2, d3, d4] => { results := [.lit (.bool true)], args := [d1, d2, d3, d4] }
  | _ => none }
def fnTokenStringToAstCaseTableRow : OpenClaim := { program := "ytgdlfcgboghadaafmt", sum := "d2d8203417d0ec56d2802fe5d651d741db478a601197f1c461a58d5107e0a7b1", func := "github.com/google/go-jsonnet/n008_160.FnTokenStringToAstCaseTable", spec := "fnTokenStringToAstCaseTable", stops := ["fmt.Sprintf, its operands' methods called"], inPlace := ["fmt.Sprintf"], unfollowed := true, recurses := true, named := ["unicode/utf8.first", "unicode/utf8.acceptRanges", "bytes.ErrTooLarge", "encoding/hex.ErrLength"], apart := false, laid := [("unicode/utf8.acceptRanges", laid_unicode_utf8_acceptRanges), ("bytes.ErrTooLarge", laid_bytes_ErrTooLarge), ("encoding/hex.ErrLength", laid_encoding_hex_ErrLength), ("unicode/utf8.first", laid_unicode_utf8_first)] }
/-- NO THEOREM (fmt's text is open here; it may be false): for the released tool's asking of the row's closed facts alone. THE STATEMENT IS 'FnTokenStringToAstCaseTableToldSaid' (YtgdlfcgboghadaaFmtCards.lean). -/
def FnTokenStringToAstCaseTableFormAsk : Prop := fnTokenStringToAstCaseTableRow.holds Tryf.pinned (OpenSpec.ofChange fnTokenStringToAstCaseTableSpec)

/-- ITS FALSE NEIGHBOUR: 'it returns false'. Refute it at one input. -/
def fnTokenStringToAstCaseTableWrong : ChangeSpec := { name := "fnTokenStringToAstCaseTable", fn := fun _ => fun
  | [d1, d2, d3, d4] => { results := [.lit (.bool false)], args := [d1, d2, d3, d4] }
  | _ => none }
def FnTokenStringToAstCaseTableWrongFormAsk : Prop := fnTokenStringToAstCaseTableRow.holds Tryf.pinned (OpenSpec.ofChange fnTokenStringToAstCaseTableWrong)

/-- 'n008_164.FnLexSymbolCommentMatchesModel': WHATEVER THE INPUT: true; the input reads as it did. -/
def fnLexSymbolCommentMatchesModelSpec : ChangeSpec := { name := "fnLexSymbolCommentMatchesModel", fn := fun _ => fun
  | [d] => { results := [.lit (.bool true)], args := [d] }
  | _ => none }
def fnLexSymbolCommentMatchesModelRow : OpenClaim := { program := "ytgdlfcgboghadaafmt", sum := "d2d8203417d0ec56d2802fe5d651d741db478a601197f1c461a58d5107e0a7b1", func := "github.com/google/go-jsonnet/n008_164.FnLexSymbolCommentMatchesModel", spec := "fnLexSymbolCommentMatchesModel", stops := ["fmt.Sprintf, its operands' methods called"], inPlace := ["fmt.Sprintf", "internal/bytealg.IndexByteString", "internal/bytealg.IndexString"], unfollowed := true, recurses := true, named := ["bytes.ErrTooLarge", "unicode/utf8.first", "unicode/utf8.acceptRanges", "internal/bytealg.MaxLen"], apart := false, laid := [("unicode/utf8.acceptRanges", laid_unicode_utf8_acceptRanges), ("bytes.ErrTooLarge", laid_bytes_ErrTooLarge), ("unicode/utf8.first", laid_unicode_utf8_first)] }
/-- NO THEOREM (fmt's text is open here; it may be false): for the released tool's asking of the row's closed facts alone. THE STATEMENT IS 'FnLexSymbolCommentMatchesModelToldSaid' (YtgdlfcgboghadaaFmtCards.lean). -/
def FnLexSymbolCommentMatchesModelFormAsk : Prop := fnLexSymbolCommentMatchesModelRow.holds Tryf.pinned (OpenSpec.ofChange fnLexSymbolCommentMatchesModelSpec)

/-- ITS FALSE NEIGHBOUR: 'it returns false'. Refute it at one input. -/
def fnLexSymbolCommentMatchesModelWrong : ChangeSpec := { name := "fnLexSymbolCommentMatchesModel", fn := fun _ => fun
  | [d] => { results := [.lit (.bool false)], args := [d] }
  | _ => none }
def FnLexSymbolCommentMatchesModelWrongFormAsk : Prop := fnLexSymbolCommentMatchesModelRow.holds Tryf.pinned (OpenSpec.ofChange fnLexSymbolCommentMatchesModelWrong)

end Rows
end Go.Proofs.YtgdlfcgboghadaaFmt
