/-
  DERIVED. GIVEN WITH THE SEED: THE PROGRAM's TIES (one call each: nine closed facts by the kernel) AND EACH ROW's TIE, after the 31st guide's Derived/Test/Toyas{Tie, Card}.lean. No idea stands in it: it is a product of the set-up. Laid BY PROGRAM, IN A SANDBOX (cutbox-door.mjs). By AI agents, Wed Nov 11 2026. No macro, syntax, notation, axiom, sorry.
-/
import Derived.Test.YtjbjdoahpeghpabDoorRows
import Derived.LaidByTextLater
import Derived.SevenTiedAt
import Derived.LaidSub
import Derived.LaidOnce
namespace Go.Proofs.YtjbjdoahpeghpabDoor
open Go
set_option maxRecDepth 100000
theorem seatTie1 : Tryd.prog.laidByTextLater [("github.com/google/go-jsonnet/internal/ast.bopPrecedence", Rows.laid_github_com_google_go_jsonnet_internal_ast_bopPrecedence)] [.mapped] true :=
  Program.laidByTextLater_by_one 109 8 2 (by kernel_rfl) (by kernel_rfl) (by kernel_rfl) (by kernel_rfl) (by kernel_rfl) (by kernel_rfl) (fun _ _ => by kernel_rfl)
theorem noOwnUnsafe : Tryd.pinned.checked.prog.headLifts.contains "ownunsafe" = false := by kernel_rfl
theorem tie : Tryd.prog.laidByTextLater [("github.com/google/go-jsonnet/internal/ast.bopPrecedence", Rows.laid_github_com_google_go_jsonnet_internal_ast_bopPrecedence)] [.mapped] true :=
  Program.laidByTextLater.sub seatTie1 ["github.com/google/go-jsonnet/internal/ast.bopPrecedence"] (by kernel_rfl) (by kernel_rfl)
theorem fnBinaryOpPrecedenceRangeAndLayers_row_tie : Rows.fnBinaryOpPrecedenceRangeAndLayersRow.laidByTextAt .later Tryd.pinned [.mapped] true :=
  OpenClaim.laidByTextAt_later rfl rfl tie noOwnUnsafe
theorem fnExprPrecedenceAgreesAndOrders_row_tie : Rows.fnExprPrecedenceAgreesAndOrdersRow.laidByTextAt .later Tryd.pinned [.mapped] true :=
  OpenClaim.laidByTextAt_later rfl rfl tie noOwnUnsafe
theorem fnBinaryOpPrecedenceRangeAndLayersUpto_row_tie : Rows.fnBinaryOpPrecedenceRangeAndLayersUptoRow.laidByTextAt .later Tryd.pinned [.mapped] true :=
  OpenClaim.laidByTextAt_later rfl rfl tie noOwnUnsafe
theorem fnExprPrecedenceAgreesAndOrdersUpto_row_tie : Rows.fnExprPrecedenceAgreesAndOrdersUptoRow.laidByTextAt .later Tryd.pinned [.mapped] true :=
  OpenClaim.laidByTextAt_later rfl rfl tie noOwnUnsafe
end Go.Proofs.YtjbjdoahpeghpabDoor
