/-
  NARROWER THAN 'FOR EVERY INPUT', by the rows' own cells (each row's printed sentence says how): FnBinaryOpPrecedenceRangeAndLayers: maps, laid · FnExprPrecedenceAgreesAndOrders: maps, laid.
  DERIVED. THE GIVEN ROWS OF THIS SEAT. 2 by the template 'for every input the law returns true; each argument reads behind the call as it read before'; 0 by the template 'total and deterministic' (their statements: YtjbjdoahpeghpabDoorTotals.lean).
  GIVEN WITH THE SEED: the statements are not yours to turn. If you find one false, say at which input.
  Laid BY PROGRAM, IN A SANDBOX (cutbox-rows.mjs): the forced cells as the released guide's own fill.sh prints them over the translation 7c8c45951a86028c… (all of the seat's roots in one cut). By AI agents, Wed Nov 11 2026. No macro, syntax, notation, axiom, sorry.
-/
import Derived.Test.YtjbjdoahpeghpabDoorChecked
import GoSem.Claim
import GoSem.ClaimJoined
import GoSem.ClaimMapViews
import Derived.JoinedTies
import Derived.KernelRfl
namespace Go.Proofs.YtjbjdoahpeghpabDoor
/- THE CELL 'sum', in the pinned program and in every row, IS THE sha256 OF THE DUMP (.gsa) THAT YtjbjdoahpeghpabDoorProg.lean LOADS. Nothing in Lean hashes anything: it is a label: what it is worth is what the hold of that sum in a sandbox is worth. -/
noncomputable def Tryd.pinned : Pinned := { name := "ytjbjdoahpeghpabdoor", sum := "7c8c45951a86028cf734afee752a404e512e7ea8bbdc6dde0843ac66745bec9c", checked := Tryd.checked }
namespace Rows
def none {H : Type} : Left H := { results := [], args := [] }

/- WHAT THE LISTED PACKAGE-LEVEL VARIABLES READ AS WHEN THE CALL BEGINS. Each datum BY PROGRAM (the guide's laid-datum.mjs) off the statement by which the dump's own 'gosem.cut.vars' lays the variable. In a bare row this is a premise. The card (YtjbjdoahpeghpabDoorCards.lean) ties it to the program's text. -/
def laid_github_com_google_go_jsonnet_internal_ast_bopPrecedence {H : Type} : DataW H := .map [(.int .i64 0, .lit (.int .i64 5)), (.int .i64 1, .lit (.int .i64 5)), (.int .i64 2, .lit (.int .i64 5)), (.int .i64 3, .lit (.int .i64 6)), (.int .i64 4, .lit (.int .i64 6)), (.int .i64 5, .lit (.int .i64 7)), (.int .i64 6, .lit (.int .i64 7)), (.int .i64 7, .lit (.int .i64 8)), (.int .i64 8, .lit (.int .i64 8)), (.int .i64 9, .lit (.int .i64 8)), (.int .i64 10, .lit (.int .i64 8)), (.int .i64 11, .lit (.int .i64 8)), (.int .i64 12, .lit (.int .i64 9)), (.int .i64 13, .lit (.int .i64 9)), (.int .i64 14, .lit (.int .i64 10)), (.int .i64 15, .lit (.int .i64 11)), (.int .i64 16, .lit (.int .i64 12)), (.int .i64 17, .lit (.int .i64 13)), (.int .i64 18, .lit (.int .i64 14))]

/-- 'n008_40.FnBinaryOpPrecedenceRangeAndLayers': WHATEVER THE INPUT: true; the input reads as it did. -/
def fnBinaryOpPrecedenceRangeAndLayersSpec : ChangeSpec := { name := "fnBinaryOpPrecedenceRangeAndLayers", vars := ["github.com/google/go-jsonnet/internal/ast.bopPrecedence"], fn := fun _ => fun
  | [d, g1] => { results := [.lit (.bool true)], args := [d], vars := [g1] }
  | _ => none }
def fnBinaryOpPrecedenceRangeAndLayersRow : OpenClaim := { program := "ytjbjdoahpeghpabdoor", sum := "7c8c45951a86028cf734afee752a404e512e7ea8bbdc6dde0843ac66745bec9c", func := "github.com/google/go-jsonnet/n008_40.FnBinaryOpPrecedenceRangeAndLayers", spec := "fnBinaryOpPrecedenceRangeAndLayers", named := ["github.com/google/go-jsonnet/internal/ast.bopPrecedence"], maps := true, apart := false, laid := [("github.com/google/go-jsonnet/internal/ast.bopPrecedence", laid_github_com_google_go_jsonnet_internal_ast_bopPrecedence)] }
def FnBinaryOpPrecedenceRangeAndLayersSaid : Prop := fnBinaryOpPrecedenceRangeAndLayersRow.holds Tryd.pinned (OpenSpec.ofChange fnBinaryOpPrecedenceRangeAndLayersSpec)

/-- ITS FALSE NEIGHBOUR: 'it returns false'. Refute it at one input. -/
def fnBinaryOpPrecedenceRangeAndLayersWrong : ChangeSpec := { name := "fnBinaryOpPrecedenceRangeAndLayers", vars := ["github.com/google/go-jsonnet/internal/ast.bopPrecedence"], fn := fun _ => fun
  | [d, g1] => { results := [.lit (.bool false)], args := [d], vars := [g1] }
  | _ => none }
def FnBinaryOpPrecedenceRangeAndLayersWrongFalsely : Prop := fnBinaryOpPrecedenceRangeAndLayersRow.holds Tryd.pinned (OpenSpec.ofChange fnBinaryOpPrecedenceRangeAndLayersWrong)

/-- 'n008_40.FnExprPrecedenceAgreesAndOrders': WHATEVER THE INPUT: true; the input reads as it did. -/
def fnExprPrecedenceAgreesAndOrdersSpec : ChangeSpec := { name := "fnExprPrecedenceAgreesAndOrders", vars := ["github.com/google/go-jsonnet/internal/ast.bopPrecedence"], fn := fun _ => fun
  | [d, g1] => { results := [.lit (.bool true)], args := [d], vars := [g1] }
  | _ => none }
def fnExprPrecedenceAgreesAndOrdersRow : OpenClaim := { program := "ytjbjdoahpeghpabdoor", sum := "7c8c45951a86028cf734afee752a404e512e7ea8bbdc6dde0843ac66745bec9c", func := "github.com/google/go-jsonnet/n008_40.FnExprPrecedenceAgreesAndOrders", spec := "fnExprPrecedenceAgreesAndOrders", named := ["github.com/google/go-jsonnet/internal/ast.bopPrecedence"], maps := true, apart := false, laid := [("github.com/google/go-jsonnet/internal/ast.bopPrecedence", laid_github_com_google_go_jsonnet_internal_ast_bopPrecedence)] }
def FnExprPrecedenceAgreesAndOrdersSaid : Prop := fnExprPrecedenceAgreesAndOrdersRow.holds Tryd.pinned (OpenSpec.ofChange fnExprPrecedenceAgreesAndOrdersSpec)

/-- ITS FALSE NEIGHBOUR: 'it returns false'. Refute it at one input. -/
def fnExprPrecedenceAgreesAndOrdersWrong : ChangeSpec := { name := "fnExprPrecedenceAgreesAndOrders", vars := ["github.com/google/go-jsonnet/internal/ast.bopPrecedence"], fn := fun _ => fun
  | [d, g1] => { results := [.lit (.bool false)], args := [d], vars := [g1] }
  | _ => none }
def FnExprPrecedenceAgreesAndOrdersWrongFalsely : Prop := fnExprPrecedenceAgreesAndOrdersRow.holds Tryd.pinned (OpenSpec.ofChange fnExprPrecedenceAgreesAndOrdersWrong)

/- THE SECOND FORM. 'bulk': how many values and letters a reading holds, each counted each time it is reached (what is shared counts as often as it is met; a slice's spare places count too). A statement '..UptoSaid' is the law's where the arguments, and the package variables that the reading takes, are together of bulk at most 1048576: NARROWER than '..Said'. Prove '..Said' where nothing that the law and all that it calls make is longer than what came in: it says more and counts as full. Else prove '..UptoSaid'. A law counts once. -/
mutual
def uptoBulk {H : Type} : DataW H → Nat
  | .lit (.string bytes) => bytes.length + 1
  | .lit _ => 1
  | .nil => 1
  | .ptr d => uptoBulk d + 1
  | .slice elems spare => uptoBulkAll elems + uptoBulkAll spare + 1
  | .agg parts => uptoBulkAll parts + 1
  | .iface _ d => uptoBulk d + 1
  | .map entries => uptoBulkEntries entries + 1
  | .held _ => 1
def uptoBulkAll {H : Type} : List (DataW H) → Nat
  | [] => 0
  | d :: r => uptoBulk d + uptoBulkAll r
def uptoBulkEntries {H : Type} : List (Lit × DataW H) → Nat
  | [] => 0
  | x :: r => uptoBulkEntry x + uptoBulkEntries r
def uptoBulkEntry {H : Type} : Lit × DataW H → Nat
  | (.string bytes, d) => bytes.length + uptoBulk d + 1
  | (_, d) => uptoBulk d + 1
 end
def uptoSmall : (H : Type) → List (DataW H) → Bool := fun _ ds => decide (uptoBulkAll ds ≤ 1048576)
def OpenSpec.upto (s : _root_.Go.ChangeSpec) : _root_.Go.OpenSpec := { _root_.Go.OpenSpec.ofChange s with cond := some uptoSmall }

/-- 'n008_40.FnBinaryOpPrecedenceRangeAndLayers', WHERE WHAT IT READS IS OF BULK AT MOST 1048576: true; the input reads as it did. -/
def fnBinaryOpPrecedenceRangeAndLayersUptoRow : OpenClaim := { program := "ytjbjdoahpeghpabdoor", sum := "7c8c45951a86028cf734afee752a404e512e7ea8bbdc6dde0843ac66745bec9c", func := "github.com/google/go-jsonnet/n008_40.FnBinaryOpPrecedenceRangeAndLayers", spec := "fnBinaryOpPrecedenceRangeAndLayers", named := ["github.com/google/go-jsonnet/internal/ast.bopPrecedence"], maps := true, apart := false, laid := [("github.com/google/go-jsonnet/internal/ast.bopPrecedence", laid_github_com_google_go_jsonnet_internal_ast_bopPrecedence)], narrowed := true }
def FnBinaryOpPrecedenceRangeAndLayersUptoSaid : Prop := fnBinaryOpPrecedenceRangeAndLayersUptoRow.holds Tryd.pinned (OpenSpec.upto fnBinaryOpPrecedenceRangeAndLayersSpec)

/-- 'n008_40.FnExprPrecedenceAgreesAndOrders', WHERE WHAT IT READS IS OF BULK AT MOST 1048576: true; the input reads as it did. -/
def fnExprPrecedenceAgreesAndOrdersUptoRow : OpenClaim := { program := "ytjbjdoahpeghpabdoor", sum := "7c8c45951a86028cf734afee752a404e512e7ea8bbdc6dde0843ac66745bec9c", func := "github.com/google/go-jsonnet/n008_40.FnExprPrecedenceAgreesAndOrders", spec := "fnExprPrecedenceAgreesAndOrders", named := ["github.com/google/go-jsonnet/internal/ast.bopPrecedence"], maps := true, apart := false, laid := [("github.com/google/go-jsonnet/internal/ast.bopPrecedence", laid_github_com_google_go_jsonnet_internal_ast_bopPrecedence)], narrowed := true }
def FnExprPrecedenceAgreesAndOrdersUptoSaid : Prop := fnExprPrecedenceAgreesAndOrdersUptoRow.holds Tryd.pinned (OpenSpec.upto fnExprPrecedenceAgreesAndOrdersSpec)

end Rows
end Go.Proofs.YtjbjdoahpeghpabDoor
