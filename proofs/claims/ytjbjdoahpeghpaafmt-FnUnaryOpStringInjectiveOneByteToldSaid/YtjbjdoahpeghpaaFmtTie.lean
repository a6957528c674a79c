/-
  DERIVED. GIVEN WITH THE SEED: THE PROGRAM's TIES (one call each: nine closed facts by the kernel) AND EACH ROW's TIE, after the 31st guide's Derived/Test/Toyas{Tie, Card}.lean. No idea stands in it: it is a product of the set-up. Laid BY PROGRAM, IN A SANDBOX (cutbox-door.mjs). By AI agents, Wed Nov 11 2026. No macro, syntax, notation, axiom, sorry.
-/
import Derived.Test.YtjbjdoahpeghpaaFmtRows
import Derived.LaidByTextLater
import Derived.SevenTiedAt
import Derived.LaidSub
import Derived.LaidOnce
namespace Go.Proofs.YtjbjdoahpeghpaaFmt
open Go
set_option maxRecDepth 100000
theorem seatTie1 : Tryf.prog.laidByTextLater [("github.com/google/go-jsonnet/ast.bopStrings", Rows.laid_github_com_google_go_jsonnet_ast_bopStrings), ("github.com/google/go-jsonnet/ast.uopStrings", Rows.laid_github_com_google_go_jsonnet_ast_uopStrings), ("github.com/google/go-jsonnet/internal/parser.tokenKindStrings", Rows.laid_github_com_google_go_jsonnet_internal_parser_tokenKindStrings)] [.data, .data, .data] true :=
  Program.laidByTextLater_by_one 24 8 38 (by kernel_rfl) (by kernel_rfl) (by kernel_rfl) (by kernel_rfl) (by kernel_rfl) (by kernel_rfl) (fun _ _ => by kernel_rfl)
theorem noOwnUnsafe : Tryf.pinned.checked.prog.headLifts.contains "ownunsafe" = false := by kernel_rfl
theorem tie : Tryf.prog.laidByTextLater [("github.com/google/go-jsonnet/internal/parser.tokenKindStrings", Rows.laid_github_com_google_go_jsonnet_internal_parser_tokenKindStrings)] [.data] true :=
  Program.laidByTextLater.sub seatTie1 ["github.com/google/go-jsonnet/internal/parser.tokenKindStrings"] (by kernel_rfl) (by kernel_rfl)
theorem fnTokenKindStringTable_row_tie : Rows.fnTokenKindStringTableRow.laidByTextAt .later Tryf.pinned [.data] true :=
  OpenClaim.laidByTextAt_later rfl rfl tie noOwnUnsafe
theorem fnTokenKindStringKeywordRoundTrip_row_tie : Rows.fnTokenKindStringKeywordRoundTripRow.laidByTextAt .later Tryf.pinned [.data] true :=
  OpenClaim.laidByTextAt_later rfl rfl tie noOwnUnsafe
theorem tie2 : Tryf.prog.laidByTextLater [("github.com/google/go-jsonnet/ast.uopStrings", Rows.laid_github_com_google_go_jsonnet_ast_uopStrings)] [.data] true :=
  Program.laidByTextLater.sub seatTie1 ["github.com/google/go-jsonnet/ast.uopStrings"] (by kernel_rfl) (by kernel_rfl)
theorem fnUnaryOpStringTable_row_tie : Rows.fnUnaryOpStringTableRow.laidByTextAt .later Tryf.pinned [.data] true :=
  OpenClaim.laidByTextAt_later rfl rfl tie2 noOwnUnsafe
theorem fnUnaryOpStringInjectiveOneByte_row_tie : Rows.fnUnaryOpStringInjectiveOneByteRow.laidByTextAt .later Tryf.pinned [.data] true :=
  OpenClaim.laidByTextAt_later rfl rfl tie2 noOwnUnsafe
theorem tie3 : Tryf.prog.laidByTextLater [("github.com/google/go-jsonnet/ast.bopStrings", Rows.laid_github_com_google_go_jsonnet_ast_bopStrings)] [.data] true :=
  Program.laidByTextLater.sub seatTie1 ["github.com/google/go-jsonnet/ast.bopStrings"] (by kernel_rfl) (by kernel_rfl)
theorem fnBinaryOpStringTable_row_tie : Rows.fnBinaryOpStringTableRow.laidByTextAt .later Tryf.pinned [.data] true :=
  OpenClaim.laidByTextAt_later rfl rfl tie3 noOwnUnsafe
theorem fnBinaryOpStringInjective_row_tie : Rows.fnBinaryOpStringInjectiveRow.laidByTextAt .later Tryf.pinned [.data] true :=
  OpenClaim.laidByTextAt_later rfl rfl tie3 noOwnUnsafe
end Go.Proofs.YtjbjdoahpeghpaaFmt
