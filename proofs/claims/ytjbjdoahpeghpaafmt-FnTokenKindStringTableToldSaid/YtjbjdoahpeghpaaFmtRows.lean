/-
  NARROWER THAN 'FOR EVERY INPUT', by the rows' own cells (each row's printed sentence says how): FnTokenKindStringTable: laid · FnUnaryOpStringTable: laid · FnBinaryOpStringTable: laid · FnTokenKindStringKeywordRoundTrip: laid · FnUnaryOpStringInjectiveOneByte: laid · FnBinaryOpStringInjective: laid.
  DERIVED. THE GIVEN ROWS OF THIS SEAT. 6 by the template 'for every input the law returns true; each argument reads behind the call as it read before'; 0 by the template 'total and deterministic' (their statements: YtjbjdoahpeghpaaFmtTotals.lean).
  GIVEN WITH THE SEED: the statements are not yours to turn. If you find one false, say at which input.
  Laid BY PROGRAM, IN A SANDBOX (cutbox-rows.mjs): the forced cells as the released guide's own fill.sh prints them over the translation 4baf345969a68d28… (all of the seat's roots in one cut). By AI agents, Wed Nov 11 2026. No macro, syntax, notation, axiom, sorry.
-/
import Derived.Test.YtjbjdoahpeghpaaFmtChecked
import GoSem.Claim
import GoSem.ClaimJoined
import GoSem.ClaimMapViews
import Derived.JoinedTies
import Derived.KernelRfl
namespace Go.Proofs.YtjbjdoahpeghpaaFmt
/- THE CELL 'sum', in the pinned program and in every row, IS THE sha256 OF THE DUMP (.gsa) THAT YtjbjdoahpeghpaaFmtProg.lean LOADS. Nothing in Lean hashes anything: it is a label: what it is worth is what the hold of that sum in a sandbox is worth. -/
noncomputable def Tryf.pinned : Pinned := { name := "ytjbjdoahpeghpaafmt", sum := "4baf345969a68d28079fb550a2725803f3df6d1036d15ee410c7fadfef5e85bd", checked := Tryf.checked }
namespace Rows
def none {H : Type} : Left H := { results := [], args := [] }

/- WHAT THE LISTED PACKAGE-LEVEL VARIABLES READ AS WHEN THE CALL BEGINS. Each datum BY PROGRAM (the guide's laid-datum.mjs) off the statement by which the dump's own 'gosem.cut.vars' lays the variable. In a bare row this is a premise. The card (YtjbjdoahpeghpaaFmtCards.lean) ties it to the program's text. -/
def laid_github_com_google_go_jsonnet_internal_parser_tokenKindStrings {H : Type} : DataW H := .slice [.lit (.string [34, 123, 34]), .lit (.string [34, 125, 34]), .lit (.string [34, 91, 34]), .lit (.string [34, 93, 34]), .lit (.string [34, 44, 34]), .lit (.string [34, 36, 34]), .lit (.string [34, 46, 34]), .lit (.string [34, 40, 34]), .lit (.string [34, 41, 34]), .lit (.string [34, 59, 34]), .lit (.string [73, 68, 69, 78, 84, 73, 70, 73, 69, 82]), .lit (.string [78, 85, 77, 66, 69, 82]), .lit (.string [79, 80, 69, 82, 65, 84, 79, 82]), .lit (.string [83, 84, 82, 73, 78, 71, 95, 66, 76, 79, 67, 75]), .lit (.string [83, 84, 82, 73, 78, 71, 95, 68, 79, 85, 66, 76, 69]), .lit (.string [83, 84, 82, 73, 78, 71, 95, 83, 73, 78, 71, 76, 69]), .lit (.string [86, 69, 82, 66, 65, 84, 73, 77, 95, 83, 84, 82, 73, 78, 71, 95, 68, 79, 85, 66, 76, 69]), .lit (.string [86, 69, 82, 66, 65, 84, 73, 77, 95, 83, 84, 82, 73, 78, 71, 95, 83, 73, 78, 71, 76, 69]), .lit (.string [97, 115, 115, 101, 114, 116]), .lit (.string [101, 108, 115, 101]), .lit (.string [101, 114, 114, 111, 114]), .lit (.string [102, 97, 108, 115, 101]), .lit (.string [102, 111, 114]), .lit (.string [102, 117, 110, 99, 116, 105, 111, 110]), .lit (.string [105, 102]), .lit (.string [105, 109, 112, 111, 114, 116]), .lit (.string [105, 109, 112, 111, 114, 116, 115, 116, 114]), .lit (.string [105, 109, 112, 111, 114, 116, 98, 105, 110]), .lit (.string [105, 110]), .lit (.string [108, 111, 99, 97, 108]), .lit (.string [110, 117, 108, 108]), .lit (.string [115, 101, 108, 102]), .lit (.string [115, 117, 112, 101, 114]), .lit (.string [116, 97, 105, 108, 115, 116, 114, 105, 99, 116]), .lit (.string [116, 104, 101, 110]), .lit (.string [116, 114, 117, 101]), .lit (.string [101, 110, 100, 32, 111, 102, 32, 102, 105, 108, 101])] []
def laid_github_com_google_go_jsonnet_ast_uopStrings {H : Type} : DataW H := .slice [.lit (.string [33]), .lit (.string [126]), .lit (.string [43]), .lit (.string [45])] []
def laid_github_com_google_go_jsonnet_ast_bopStrings {H : Type} : DataW H := .slice [.lit (.string [42]), .lit (.string [47]), .lit (.string [37]), .lit (.string [43]), .lit (.string [45]), .lit (.string [60, 60]), .lit (.string [62, 62]), .lit (.string [62]), .lit (.string [62, 61]), .lit (.string [60]), .lit (.string [60, 61]), .lit (.string [105, 110]), .lit (.string [61, 61]), .lit (.string [33, 61]), .lit (.string [38]), .lit (.string [94]), .lit (.string [124]), .lit (.string [38, 38]), .lit (.string [124, 124])] []

/-- 'n008_139.FnTokenKindStringTable': WHATEVER THE INPUT: true; the input reads as it did. -/
def fnTokenKindStringTableSpec : ChangeSpec := { name := "fnTokenKindStringTable", vars := ["github.com/google/go-jsonnet/internal/parser.tokenKindStrings"], fn := fun _ => fun
  | [d, g1] => { results := [.lit (.bool true)], args := [d], vars := [g1] }
  | _ => none }
def fnTokenKindStringTableRow : OpenClaim := { program := "ytjbjdoahpeghpaafmt", sum := "4baf345969a68d28079fb550a2725803f3df6d1036d15ee410c7fadfef5e85bd", func := "github.com/google/go-jsonnet/n008_139.FnTokenKindStringTable", spec := "fnTokenKindStringTable", stops := ["fmt.Sprintf, its operands' methods called"], inPlace := ["fmt.Sprintf"], unfollowed := true, recurses := true, named := ["github.com/google/go-jsonnet/internal/parser.tokenKindStrings"], apart := false, laid := [("github.com/google/go-jsonnet/internal/parser.tokenKindStrings", laid_github_com_google_go_jsonnet_internal_parser_tokenKindStrings)] }
/-- NO THEOREM (fmt's text is open here; it may be false): for the released tool's asking of the row's closed facts alone. THE STATEMENT IS 'FnTokenKindStringTableToldSaid' (YtjbjdoahpeghpaaFmtCards.lean). -/
def FnTokenKindStringTableFormAsk : Prop := fnTokenKindStringTableRow.holds Tryf.pinned (OpenSpec.ofChange fnTokenKindStringTableSpec)

/-- ITS FALSE NEIGHBOUR: 'it returns false'. Refute it at one input. -/
def fnTokenKindStringTableWrong : ChangeSpec := { name := "fnTokenKindStringTable", vars := ["github.com/google/go-jsonnet/internal/parser.tokenKindStrings"], fn := fun _ => fun
  | [d, g1] => { results := [.lit (.bool false)], args := [d], vars := [g1] }
  | _ => none }
def FnTokenKindStringTableWrongFormAsk : Prop := fnTokenKindStringTableRow.holds Tryf.pinned (OpenSpec.ofChange fnTokenKindStringTableWrong)

/-- 'n008_165.FnUnaryOpStringTable': WHATEVER THE INPUT: true; the input reads as it did. -/
def fnUnaryOpStringTableSpec : ChangeSpec := { name := "fnUnaryOpStringTable", vars := ["github.com/google/go-jsonnet/ast.uopStrings"], fn := fun _ => fun
  | [d, g1] => { results := [.lit (.bool true)], args := [d], vars := [g1] }
  | _ => none }
def fnUnaryOpStringTableRow : OpenClaim := { program := "ytjbjdoahpeghpaafmt", sum := "4baf345969a68d28079fb550a2725803f3df6d1036d15ee410c7fadfef5e85bd", func := "github.com/google/go-jsonnet/n008_165.FnUnaryOpStringTable", spec := "fnUnaryOpStringTable", stops := ["fmt.Sprintf, its operands' methods called"], inPlace := ["fmt.Sprintf"], unfollowed := true, recurses := true, named := ["github.com/google/go-jsonnet/ast.uopStrings"], apart := false, laid := [("github.com/google/go-jsonnet/ast.uopStrings", laid_github_com_google_go_jsonnet_ast_uopStrings)] }
/-- NO THEOREM (fmt's text is open here; it may be false): for the released tool's asking of the row's closed facts alone. THE STATEMENT IS 'FnUnaryOpStringTableToldSaid' (YtjbjdoahpeghpaaFmtCards.lean). -/
def FnUnaryOpStringTableFormAsk : Prop := fnUnaryOpStringTableRow.holds Tryf.pinned (OpenSpec.ofChange fnUnaryOpStringTableSpec)

/-- ITS FALSE NEIGHBOUR: 'it returns false'. Refute it at one input. -/
def fnUnaryOpStringTableWrong : ChangeSpec := { name := "fnUnaryOpStringTable", vars := ["github.com/google/go-jsonnet/ast.uopStrings"], fn := fun _ => fun
  | [d, g1] => { results := [.lit (.bool false)], args := [d], vars := [g1] }
  | _ => none }
def FnUnaryOpStringTableWrongFormAsk : Prop := fnUnaryOpStringTableRow.holds Tryf.pinned (OpenSpec.ofChange fnUnaryOpStringTableWrong)

/-- 'n008_31.FnBinaryOpStringTable': WHATEVER THE INPUT: true; the input reads as it did. -/
def fnBinaryOpStringTableSpec : ChangeSpec := { name := "fnBinaryOpStringTable", vars := ["github.com/google/go-jsonnet/ast.bopStrings"], fn := fun _ => fun
  | [d, g1] => { results := [.lit (.bool true)], args := [d], vars := [g1] }
  | _ => none }
def fnBinaryOpStringTableRow : OpenClaim := { program := "ytjbjdoahpeghpaafmt", sum := "4baf345969a68d28079fb550a2725803f3df6d1036d15ee410c7fadfef5e85bd", func := "github.com/google/go-jsonnet/n008_31.FnBinaryOpStringTable", spec := "fnBinaryOpStringTable", stops := ["fmt.Sprintf, its operands' methods called"], inPlace := ["fmt.Sprintf"], unfollowed := true, recurses := true, named := ["github.com/google/go-jsonnet/ast.bopStrings"], apart := false, laid := [("github.com/google/go-jsonnet/ast.bopStrings", laid_github_com_google_go_jsonnet_ast_bopStrings)] }
/-- NO THEOREM (fmt's text is open here; it may be false): for the released tool's asking of the row's closed facts alone. THE STATEMENT IS 'FnBinaryOpStringTableToldSaid' (YtjbjdoahpeghpaaFmtCards.lean). -/
def FnBinaryOpStringTableFormAsk : Prop := fnBinaryOpStringTableRow.holds Tryf.pinned (OpenSpec.ofChange fnBinaryOpStringTableSpec)

/-- ITS FALSE NEIGHBOUR: 'it returns false'. Refute it at one input. -/
def fnBinaryOpStringTableWrong : ChangeSpec := { name := "fnBinaryOpStringTable", vars := ["github.com/google/go-jsonnet/ast.bopStrings"], fn := fun _ => fun
  | [d, g1] => { results := [.lit (.bool false)], args := [d], vars := [g1] }
  | _ => none }
def FnBinaryOpStringTableWrongFormAsk : Prop := fnBinaryOpStringTableRow.holds Tryf.pinned (OpenSpec.ofChange fnBinaryOpStringTableWrong)

/-- 'n008_139.FnTokenKindStringKeywordRoundTrip': WHATEVER THE INPUT: true; the input reads as it did. -/
def fnTokenKindStringKeywordRoundTripSpec : ChangeSpec := { name := "fnTokenKindStringKeywordRoundTrip", vars := ["github.com/google/go-jsonnet/internal/parser.tokenKindStrings"], fn := fun _ => fun
  | [d, g1] => { results := [.lit (.bool true)], args := [d], vars := [g1] }
  | _ => none }
def fnTokenKindStringKeywordRoundTripRow : OpenClaim := { program := "ytjbjdoahpeghpaafmt", sum := "4baf345969a68d28079fb550a2725803f3df6d1036d15ee410c7fadfef5e85bd", func := "github.com/google/go-jsonnet/n008_139.FnTokenKindStringKeywordRoundTrip", spec := "fnTokenKindStringKeywordRoundTrip", stops := ["fmt.Sprintf, its operands' methods called"], inPlace := ["fmt.Sprintf"], unfollowed := true, recurses := true, named := ["github.com/google/go-jsonnet/internal/parser.tokenKindStrings"], apart := false, laid := [("github.com/google/go-jsonnet/internal/parser.tokenKindStrings", laid_github_com_google_go_jsonnet_internal_parser_tokenKindStrings)] }
/-- NO THEOREM (fmt's text is open here; it may be false): for the released tool's asking of the row's closed facts alone. THE STATEMENT IS 'FnTokenKindStringKeywordRoundTripToldSaid' (YtjbjdoahpeghpaaFmtCards.lean). -/
def FnTokenKindStringKeywordRoundTripFormAsk : Prop := fnTokenKindStringKeywordRoundTripRow.holds Tryf.pinned (OpenSpec.ofChange fnTokenKindStringKeywordRoundTripSpec)

/-- ITS FALSE NEIGHBOUR: 'it returns false'. Refute it at one input. -/
def fnTokenKindStringKeywordRoundTripWrong : ChangeSpec := { name := "fnTokenKindStringKeywordRoundTrip", vars := ["github.com/google/go-jsonnet/internal/parser.tokenKindStrings"], fn := fun _ => fun
  | [d, g1] => { results := [.lit (.bool false)], args := [d], vars := [g1] }
  | _ => none }
def FnTokenKindStringKeywordRoundTripWrongFormAsk : Prop := fnTokenKindStringKeywordRoundTripRow.holds Tryf.pinned (OpenSpec.ofChange fnTokenKindStringKeywordRoundTripWrong)

/-- 'n008_165.FnUnaryOpStringInjectiveOneByte': WHATEVER THE INPUT: true; the input reads as it did. -/
def fnUnaryOpStringInjectiveOneByteSpec : ChangeSpec := { name := "fnUnaryOpStringInjectiveOneByte", vars := ["github.com/google/go-jsonnet/ast.uopStrings"], fn := fun _ => fun
  | [d1, d2, g1] => { results := [.lit (.bool true)], args := [d1, d2], vars := [g1] }
  | _ => none }
def fnUnaryOpStringInjectiveOneByteRow : OpenClaim := { program := "ytjbjdoahpeghpaafmt", sum := "4baf345969a68d28079fb550a2725803f3df6d1036d15ee410c7fadfef5e85bd", func := "github.com/google/go-jsonnet/n008_165.FnUnaryOpStringInjectiveOneByte", spec := "fnUnaryOpStringInjectiveOneByte", stops := ["fmt.Sprintf, its operands' methods called"], inPlace := ["fmt.Sprintf"], unfollowed := true, recurses := true, named := ["github.com/google/go-jsonnet/ast.uopStrings"], apart := false, laid := [("github.com/google/go-jsonnet/ast.uopStrings", laid_github_com_google_go_jsonnet_ast_uopStrings)] }
/-- NO THEOREM (fmt's text is open here; it may be false): for the released tool's asking of the row's closed facts alone. THE STATEMENT IS 'FnUnaryOpStringInjectiveOneByteToldSaid' (YtjbjdoahpeghpaaFmtCards.lean). -/
def FnUnaryOpStringInjectiveOneByteFormAsk : Prop := fnUnaryOpStringInjectiveOneByteRow.holds Tryf.pinned (OpenSpec.ofChange fnUnaryOpStringInjectiveOneByteSpec)

/-- ITS FALSE NEIGHBOUR: 'it returns false'. Refute it at one input. -/
def fnUnaryOpStringInjectiveOneByteWrong : ChangeSpec := { name := "fnUnaryOpStringInjectiveOneByte", vars := ["github.com/google/go-jsonnet/ast.uopStrings"], fn := fun _ => fun
  | [d1, d2, g1] => { results := [.lit (.bool false)], args := [d1, d2], vars := [g1] }
  | _ => none }
def FnUnaryOpStringInjectiveOneByteWrongFormAsk : Prop := fnUnaryOpStringInjectiveOneByteRow.holds Tryf.pinned (OpenSpec.ofChange fnUnaryOpStringInjectiveOneByteWrong)

/-- 'n008_31.FnBinaryOpStringInjective': WHATEVER THE INPUT: true; the input reads as it did. -/
def fnBinaryOpStringInjectiveSpec : ChangeSpec := { name := "fnBinaryOpStringInjective", vars := ["github.com/google/go-jsonnet/ast.bopStrings"], fn := fun _ => fun
  | [d1, d2, g1] => { results := [.lit (.bool true)], args := [d1, d2], vars := [g1] }
  | _ => none }
def fnBinaryOpStringInjectiveRow : OpenClaim := { program := "ytjbjdoahpeghpaafmt", sum := "4baf345969a68d28079fb550a2725803f3df6d1036d15ee410c7fadfef5e85bd", func := "github.com/google/go-jsonnet/n008_31.FnBinaryOpStringInjective", spec := "fnBinaryOpStringInjective", stops := ["fmt.Sprintf, its operands' methods called"], inPlace := ["fmt.Sprintf"], unfollowed := true, recurses := true, named := ["github.com/google/go-jsonnet/ast.bopStrings"], apart := false, laid := [("github.com/google/go-jsonnet/ast.bopStrings", laid_github_com_google_go_jsonnet_ast_bopStrings)] }
/-- NO THEOREM (fmt's text is open here; it may be false): for the released tool's asking of the row's closed facts alone. THE STATEMENT IS 'FnBinaryOpStringInjectiveToldSaid' (YtjbjdoahpeghpaaFmtCards.lean). -/
def FnBinaryOpStringInjectiveFormAsk : Prop := fnBinaryOpStringInjectiveRow.holds Tryf.pinned (OpenSpec.ofChange fnBinaryOpStringInjectiveSpec)

/-- ITS FALSE NEIGHBOUR: 'it returns false'. Refute it at one input. -/
def fnBinaryOpStringInjectiveWrong : ChangeSpec := { name := "fnBinaryOpStringInjective", vars := ["github.com/google/go-jsonnet/ast.bopStrings"], fn := fun _ => fun
  | [d1, d2, g1] => { results := [.lit (.bool false)], args := [d1, d2], vars := [g1] }
  | _ => none }
def FnBinaryOpStringInjectiveWrongFormAsk : Prop := fnBinaryOpStringInjectiveRow.holds Tryf.pinned (OpenSpec.ofChange fnBinaryOpStringInjectiveWrong)

end Rows
end Go.Proofs.YtjbjdoahpeghpaaFmt
