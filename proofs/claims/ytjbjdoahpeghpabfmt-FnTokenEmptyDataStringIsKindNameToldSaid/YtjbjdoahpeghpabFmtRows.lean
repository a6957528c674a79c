/-
  NARROWER THAN 'FOR EVERY INPUT', by the rows' own cells (each row's printed sentence says how): FnTokenEmptyDataStringIsKindName: maps, laid.
  DERIVED. THE GIVEN ROWS OF THIS SEAT. 2 by the template 'for every input the law returns true; each argument reads behind the call as it read before'; 0 by the template 'total and deterministic' (their statements: YtjbjdoahpeghpabFmtTotals.lean).
  GIVEN WITH THE SEED: the statements are not yours to turn. If you find one false, say at which input.
  Laid BY PROGRAM, IN A SANDBOX (cutbox-rows.mjs): the forced cells as the released guide's own fill.sh prints them over the translation 651fb4102e2e1e3b… (all of the seat's roots in one cut). By AI agents, Wed Nov 11 2026. No macro, syntax, notation, axiom, sorry.
-/
import Derived.Test.YtjbjdoahpeghpabFmtChecked
import GoSem.Claim
import GoSem.ClaimJoined
import GoSem.ClaimMapViews
import Derived.JoinedTies
import Derived.KernelRfl
namespace Go.Proofs.YtjbjdoahpeghpabFmt
/- THE CELL 'sum', in the pinned program and in every row, IS THE sha256 OF THE DUMP (.gsa) THAT YtjbjdoahpeghpabFmtProg.lean LOADS. Nothing in Lean hashes anything: it is a label: what it is worth is what the hold of that sum in a sandbox is worth. -/
noncomputable def Tryf.pinned : Pinned := { name := "ytjbjdoahpeghpabfmt", sum := "651fb4102e2e1e3bed2e50a005639121e283a96b07e33dafec129b1a5b99122c", checked := Tryf.checked }
namespace Rows
def none {H : Type} : Left H := { results := [], args := [] }

/- WHAT THE LISTED PACKAGE-LEVEL VARIABLES READ AS WHEN THE CALL BEGINS. Each datum BY PROGRAM (the guide's laid-datum.mjs) off the statement by which the dump's own 'gosem.cut.vars' lays the variable. In a bare row this is a premise. The card (YtjbjdoahpeghpabFmtCards.lean) ties it to the program's text. -/
def laid_github_com_google_go_jsonnet_internal_parser_tokenKindStrings {H : Type} : DataW H := .slice [.lit (.string [34, 123, 34]), .lit (.string [34, 125, 34]), .lit (.string [34, 91, 34]), .lit (.string [34, 93, 34]), .lit (.string [34, 44, 34]), .lit (.string [34, 36, 34]), .lit (.string [34, 46, 34]), .lit (.string [34, 40, 34]), .lit (.string [34, 41, 34]), .lit (.string [34, 59, 34]), .lit (.string [73, 68, 69, 78, 84, 73, 70, 73, 69, 82]), .lit (.string [78, 85, 77, 66, 69, 82]), .lit (.string [79, 80, 69, 82, 65, 84, 79, 82]), .lit (.string [83, 84, 82, 73, 78, 71, 95, 66, 76, 79, 67, 75]), .lit (.string [83, 84, 82, 73, 78, 71, 95, 68, 79, 85, 66, 76, 69]), .lit (.string [83, 84, 82, 73, 78, 71, 95, 83, 73, 78, 71, 76, 69]), .lit (.string [86, 69, 82, 66, 65, 84, 73, 77, 95, 83, 84, 82, 73, 78, 71, 95, 68, 79, 85, 66, 76, 69]), .lit (.string [86, 69, 82, 66, 65, 84, 73, 77, 95, 83, 84, 82, 73, 78, 71, 95, 83, 73, 78, 71, 76, 69]), .lit (.string [97, 115, 115, 101, 114, 116]), .lit (.string [101, 108, 115, 101]), .lit (.string [101, 114, 114, 111, 114]), .lit (.string [102, 97, 108, 115, 101]), .lit (.string [102, 111, 114]), .lit (.string [102, 117, 110, 99, 116, 105, 111, 110]), .lit (.string [105, 102]), .lit (.string [105, 109, 112, 111, 114, 116]), .lit (.string [105, 109, 112, 111, 114, 116, 115, 116, 114]), .lit (.string [105, 109, 112, 111, 114, 116, 98, 105, 110]), .lit (.string [105, 110]), .lit (.string [108, 111, 99, 97, 108]), .lit (.string [110, 117, 108, 108]), .lit (.string [115, 101, 108, 102]), .lit (.string [115, 117, 112, 101, 114]), .lit (.string [116, 97, 105, 108, 115, 116, 114, 105, 99, 116]), .lit (.string [116, 104, 101, 110]), .lit (.string [116, 114, 117, 101]), .lit (.string [101, 110, 100, 32, 111, 102, 32, 102, 105, 108, 101])] []
def laid_github_com_google_go_jsonnet_internal_parser_tokenHasContent {H : Type} : DataW H := .map [(.int .i64 10, .lit (.bool true)), (.int .i64 11, .lit (.bool true)), (.int .i64 12, .lit (.bool true)), (.int .i64 13, .lit (.bool true)), (.int .i64 14, .lit (.bool true)), (.int .i64 15, .lit (.bool true)), (.int .i64 16, .lit (.bool true)), (.int .i64 17, .lit (.bool true))]

/-- 'n008_139.FnTokenEmptyDataStringIsKindName': WHATEVER THE INPUT: true; the input reads as it did. -/
def fnTokenEmptyDataStringIsKindNameSpec : ChangeSpec := { name := "fnTokenEmptyDataStringIsKindName", vars := ["github.com/google/go-jsonnet/internal/parser.tokenHasContent", "github.com/google/go-jsonnet/internal/parser.tokenKindStrings"], fn := fun _ => fun
  | [d1, d2, d3, g1, g2] => { results := [.lit (.bool true)], args := [d1, d2, d3], vars := [g1, g2] }
  | _ => none }
def fnTokenEmptyDataStringIsKindNameRow : OpenClaim := { program := "ytjbjdoahpeghpabfmt", sum := "651fb4102e2e1e3bed2e50a005639121e283a96b07e33dafec129b1a5b99122c", func := "github.com/google/go-jsonnet/n008_139.FnTokenEmptyDataStringIsKindName", spec := "fnTokenEmptyDataStringIsKindName", stops := ["fmt.Sprintf, its operands' methods called"], inPlace := ["fmt.Sprintf"], unfollowed := true, recurses := true, named := ["github.com/google/go-jsonnet/internal/parser.tokenHasContent", "github.com/google/go-jsonnet/internal/parser.tokenKindStrings"], maps := true, apart := false, laid := [("github.com/google/go-jsonnet/internal/parser.tokenKindStrings", laid_github_com_google_go_jsonnet_internal_parser_tokenKindStrings), ("github.com/google/go-jsonnet/internal/parser.tokenHasContent", laid_github_com_google_go_jsonnet_internal_parser_tokenHasContent)] }
/-- NO THEOREM (fmt's text is open here; it may be false): for the released tool's asking of the row's closed facts alone. THE STATEMENT IS 'FnTokenEmptyDataStringIsKindNameToldSaid' (YtjbjdoahpeghpabFmtCards.lean). -/
def FnTokenEmptyDataStringIsKindNameFormAsk : Prop := fnTokenEmptyDataStringIsKindNameRow.holds Tryf.pinned (OpenSpec.ofChange fnTokenEmptyDataStringIsKindNameSpec)

/-- ITS FALSE NEIGHBOUR: 'it returns false'. Refute it at one input. -/
def fnTokenEmptyDataStringIsKindNameWrong : ChangeSpec := { name := "fnTokenEmptyDataStringIsKindName", vars := ["github.com/google/go-jsonnet/internal/parser.tokenHasContent", "github.com/google/go-jsonnet/internal/parser.tokenKindStrings"], fn := fun _ => fun
  | [d1, d2, d3, g1, g2] => { results := [.lit (.bool false)], args := [d1, d2, d3], vars := [g1, g2] }
  | _ => none }
def FnTokenEmptyDataStringIsKindNameWrongFormAsk : Prop := fnTokenEmptyDataStringIsKindNameRow.holds Tryf.pinned (OpenSpec.ofChange fnTokenEmptyDataStringIsKindNameWrong)

/-- 'n008_28.FnUnexpectedErrorsAgreeOnLocation': WHATEVER THE INPUT: true; the input reads as it did. -/
def fnUnexpectedErrorsAgreeOnLocationSpec : ChangeSpec := { name := "fnUnexpectedErrorsAgreeOnLocation", fn := fun _ => fun
  | [d1, d2, d3, d4, d5, d6, d7, d8, d9] => { results := [.lit (.bool true)], args := [d1, d2, d3, d4, d5, d6, d7, d8, d9] }
  | _ => none }
def fnUnexpectedErrorsAgreeOnLocationRow : OpenClaim := { program := "ytjbjdoahpeghpabfmt", sum := "651fb4102e2e1e3bed2e50a005639121e283a96b07e33dafec129b1a5b99122c", func := "github.com/google/go-jsonnet/n008_28.FnUnexpectedErrorsAgreeOnLocation", spec := "fnUnexpectedErrorsAgreeOnLocation", stops := ["fmt.Sprintf, its operands' methods called"], inPlace := ["fmt.Sprintf"], unfollowed := true, recurses := true, apart := false }
/-- NO THEOREM (fmt's text is open here; it may be false): for the released tool's asking of the row's closed facts alone. THE STATEMENT IS 'FnUnexpectedErrorsAgreeOnLocationToldSaid' (YtjbjdoahpeghpabFmtCards.lean). -/
def FnUnexpectedErrorsAgreeOnLocationFormAsk : Prop := fnUnexpectedErrorsAgreeOnLocationRow.holds Tryf.pinned (OpenSpec.ofChange fnUnexpectedErrorsAgreeOnLocationSpec)

/-- ITS FALSE NEIGHBOUR: 'it returns false'. Refute it at one input. -/
def fnUnexpectedErrorsAgreeOnLocationWrong : ChangeSpec := { name := "fnUnexpectedErrorsAgreeOnLocation", fn := fun _ => fun
  | [d1, d2, d3, d4, d5, d6, d7, d8, d9] => { results := [.lit (.bool false)], args := [d1, d2, d3, d4, d5, d6, d7, d8, d9] }
  | _ => none }
def FnUnexpectedErrorsAgreeOnLocationWrongFormAsk : Prop := fnUnexpectedErrorsAgreeOnLocationRow.holds Tryf.pinned (OpenSpec.ofChange fnUnexpectedErrorsAgreeOnLocationWrong)

end Rows
end Go.Proofs.YtjbjdoahpeghpabFmt
