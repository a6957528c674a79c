/-
  DERIVED. GIVEN WITH THE SEED: THE PROGRAM's TIES (one call each: nine closed facts by the kernel) AND EACH ROW's TIE, after the 31st guide's Derived/Test/Toyas{Tie, Card}.lean. No idea stands in it: it is a product of the set-up. Laid BY PROGRAM, IN A SANDBOX (cutbox-door.mjs). By AI agents, Wed Nov 11 2026. No macro, syntax, notation, axiom, sorry.
-/
import Derived.Test.YtjbjdoahpeghpabFmtRows
import Derived.LaidByTextLater
import Derived.SevenTiedAt
import Derived.LaidSub
import Derived.LaidOnce
namespace Go.Proofs.YtjbjdoahpeghpabFmt
open Go
set_option maxRecDepth 100000
theorem seatTie1 : Tryf.prog.laidByTextLater [("github.com/google/go-jsonnet/internal/parser.tokenKindStrings", Rows.laid_github_com_google_go_jsonnet_internal_parser_tokenKindStrings), ("github.com/google/go-jsonnet/internal/parser.tokenHasContent", Rows.laid_github_com_google_go_jsonnet_internal_parser_tokenHasContent)] [.data, .mapped] true :=
  Program.laidByTextLater_by_one 59 8 38 (by kernel_rfl) (by kernel_rfl) (by kernel_rfl) (by kernel_rfl) (by kernel_rfl) (by kernel_rfl) (fun _ _ => by kernel_rfl)
theorem noOwnUnsafe : Tryf.pinned.checked.prog.headLifts.contains "ownunsafe" = false := by kernel_rfl
theorem tie : Tryf.prog.laidByTextLater [("github.com/google/go-jsonnet/internal/parser.tokenKindStrings", Rows.laid_github_com_google_go_jsonnet_internal_parser_tokenKindStrings), ("github.com/google/go-jsonnet/internal/parser.tokenHasContent", Rows.laid_github_com_google_go_jsonnet_internal_parser_tokenHasContent)] [.data, .mapped] true :=
  Program.laidByTextLater.sub seatTie1 ["github.com/google/go-jsonnet/internal/parser.tokenKindStrings", "github.com/google/go-jsonnet/internal/parser.tokenHasContent"] (by kernel_rfl) (by kernel_rfl)
theorem fnTokenEmptyDataStringIsKindName_row_tie : Rows.fnTokenEmptyDataStringIsKindNameRow.laidByTextAt .later Tryf.pinned [.data, .mapped] true :=
  OpenClaim.laidByTextAt_later rfl rfl tie noOwnUnsafe
end Go.Proofs.YtjbjdoahpeghpabFmt
