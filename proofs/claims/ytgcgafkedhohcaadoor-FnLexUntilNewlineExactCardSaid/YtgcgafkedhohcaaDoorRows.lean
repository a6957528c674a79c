/-
  NARROWER THAN 'FOR EVERY INPUT', by the rows' own cells (each row's printed sentence says how): FnLexIdentifierAgreesWithIsValidIdentifier: laid · FnResetTokenStartLocatesCursor: laid · FnLexUntilNewlineExact: laid · FnEmitTokenExact: laid · FnEmitTokenTilesInput: laid.
  DERIVED. THE GIVEN ROWS OF THIS SEAT. 5 by the template 'for every input the law returns true; each argument reads behind the call as it read before'; 0 by the template 'total and deterministic' (their statements: YtgcgafkedhohcaaDoorTotals.lean).
  GIVEN WITH THE SEED: the statements are not yours to turn. If you find one false, say at which input.
  Laid BY PROGRAM, IN A SANDBOX (cutbox-rows.mjs): the forced cells as the released guide's own fill.sh prints them over the translation 7ea4669e25d21f6d… (all of the seat's roots in one cut). By AI agents, Wed Nov 11 2026. No macro, syntax, notation, axiom, sorry.
-/
import Derived.Test.YtgcgafkedhohcaaDoorChecked
import GoSem.PinnedTables
import GoSem.Claim
import GoSem.ClaimJoined
import GoSem.ClaimMapViews
import Derived.JoinedTies
import Derived.KernelRfl
namespace Go.Proofs.YtgcgafkedhohcaaDoor
/- THE CELL 'sum', in the pinned program and in every row, IS THE sha256 OF THE DUMP (.gsa) THAT YtgcgafkedhohcaaDoorProg.lean LOADS. Nothing in Lean hashes anything: it is a label: what it is worth is what the hold of that sum in a sandbox is worth. -/
noncomputable def Tryd.pinned : Pinned := { name := "ytgcgafkedhohcaadoor", sum := "7ea4669e25d21f6df075f17868dc934a6164d6f7caa9e77da15ba0386a0b6b99", checked := Tryd.checked }
namespace Rows
def none {H : Type} : Left H := { results := [], args := [] }

/- WHAT THE LISTED PACKAGE-LEVEL VARIABLES READ AS WHEN THE CALL BEGINS. Each datum BY PROGRAM (the guide's laid-datum.mjs) off the statement by which the dump's own 'gosem.cut.vars' lays the variable. In a bare row this is a premise. The card (YtgcgafkedhohcaaDoorCards.lean) ties it to the program's text. -/
def laid_unicode_utf8_acceptRanges {H : Type} : DataW H := .agg [.agg [.lit (.int .u8 128), .lit (.int .u8 191)], .agg [.lit (.int .u8 160), .lit (.int .u8 191)], .agg [.lit (.int .u8 128), .lit (.int .u8 159)], .agg [.lit (.int .u8 144), .lit (.int .u8 191)], .agg [.lit (.int .u8 128), .lit (.int .u8 143)], .agg [.lit (.int .u8 0), .lit (.int .u8 0)], .agg [.lit (.int .u8 0), .lit (.int .u8 0)], .agg [.lit (.int .u8 0), .lit (.int .u8 0)], .agg [.lit (.int .u8 0), .lit (.int .u8 0)], .agg [.lit (.int .u8 0), .lit (.int .u8 0)], .agg [.lit (.int .u8 0), .lit (.int .u8 0)], .agg [.lit (.int .u8 0), .lit (.int .u8 0)], .agg [.lit (.int .u8 0), .lit (.int .u8 0)], .agg [.lit (.int .u8 0), .lit (.int .u8 0)], .agg [.lit (.int .u8 0), .lit (.int .u8 0)], .agg [.lit (.int .u8 0), .lit (.int .u8 0)]]
def laid_bytes_ErrTooLarge {H : Type} : DataW H := .iface "*errors.errorString" (.ptr (.agg [.lit (.string [98, 121, 116, 101, 115, 46, 66, 117, 102, 102, 101, 114, 58, 32, 116, 111, 111, 32, 108, 97, 114, 103, 101])]))
/-- One of Go's own tables, pinned by name: the form's constant. -/
def laid_unicode_utf8_first : DataW Unit := Go.Pinned.utf8First

/-- 'n008_164.FnLexIdentifierAgreesWithIsValidIdentifier': WHATEVER THE INPUT: true; the input reads as it did. -/
def fnLexIdentifierAgreesWithIsValidIdentifierSpec : ChangeSpec := { name := "fnLexIdentifierAgreesWithIsValidIdentifier", fn := fun _ => fun
  | [d] => { results := [.lit (.bool true)], args := [d] }
  | _ => none }
def fnLexIdentifierAgreesWithIsValidIdentifierRow : OpenClaim := { program := "ytgcgafkedhohcaadoor", sum := "7ea4669e25d21f6df075f17868dc934a6164d6f7caa9e77da15ba0386a0b6b99", func := "github.com/google/go-jsonnet/n008_164.FnLexIdentifierAgreesWithIsValidIdentifier", spec := "fnLexIdentifierAgreesWithIsValidIdentifier", named := ["bytes.ErrTooLarge", "unicode/utf8.first", "unicode/utf8.acceptRanges"], apart := false, laid := [("unicode/utf8.acceptRanges", laid_unicode_utf8_acceptRanges), ("bytes.ErrTooLarge", laid_bytes_ErrTooLarge), ("unicode/utf8.first", laid_unicode_utf8_first)] }
def FnLexIdentifierAgreesWithIsValidIdentifierSaid : Prop := fnLexIdentifierAgreesWithIsValidIdentifierRow.holds Tryd.pinned (OpenSpec.ofChange fnLexIdentifierAgreesWithIsValidIdentifierSpec)

/-- ITS FALSE NEIGHBOUR: 'it returns false'. Refute it at one input. -/
def fnLexIdentifierAgreesWithIsValidIdentifierWrong : ChangeSpec := { name := "fnLexIdentifierAgreesWithIsValidIdentifier", fn := fun _ => fun
  | [d] => { results := [.lit (.bool false)], args := [d] }
  | _ => none }
def FnLexIdentifierAgreesWithIsValidIdentifierWrongFalsely : Prop := fnLexIdentifierAgreesWithIsValidIdentifierRow.holds Tryd.pinned (OpenSpec.ofChange fnLexIdentifierAgreesWithIsValidIdentifierWrong)

/-- 'n008_151.FnResetTokenStartLocatesCursor': WHATEVER THE INPUT: true; the input reads as it did. -/
def fnResetTokenStartLocatesCursorSpec : ChangeSpec := { name := "fnResetTokenStartLocatesCursor", fn := fun _ => fun
  | [d1, d2] => { results := [.lit (.bool true)], args := [d1, d2] }
  | _ => none }
def fnResetTokenStartLocatesCursorRow : OpenClaim := { program := "ytgcgafkedhohcaadoor", sum := "7ea4669e25d21f6df075f17868dc934a6164d6f7caa9e77da15ba0386a0b6b99", func := "github.com/google/go-jsonnet/n008_151.FnResetTokenStartLocatesCursor", spec := "fnResetTokenStartLocatesCursor", named := ["bytes.ErrTooLarge", "unicode/utf8.first", "unicode/utf8.acceptRanges"], apart := false, laid := [("unicode/utf8.acceptRanges", laid_unicode_utf8_acceptRanges), ("bytes.ErrTooLarge", laid_bytes_ErrTooLarge), ("unicode/utf8.first", laid_unicode_utf8_first)] }
def FnResetTokenStartLocatesCursorSaid : Prop := fnResetTokenStartLocatesCursorRow.holds Tryd.pinned (OpenSpec.ofChange fnResetTokenStartLocatesCursorSpec)

/-- ITS FALSE NEIGHBOUR: 'it returns false'. Refute it at one input. -/
def fnResetTokenStartLocatesCursorWrong : ChangeSpec := { name := "fnResetTokenStartLocatesCursor", fn := fun _ => fun
  | [d1, d2] => { results := [.lit (.bool false)], args := [d1, d2] }
  | _ => none }
def FnResetTokenStartLocatesCursorWrongFalsely : Prop := fnResetTokenStartLocatesCursorRow.holds Tryd.pinned (OpenSpec.ofChange fnResetTokenStartLocatesCursorWrong)

/-- 'n008_134.FnLexUntilNewlineExact': WHATEVER THE INPUT: true; the input reads as it did. -/
def fnLexUntilNewlineExactSpec : ChangeSpec := { name := "fnLexUntilNewlineExact", fn := fun _ => fun
  | [d] => { results := [.lit (.bool true)], args := [d] }
  | _ => none }
def fnLexUntilNewlineExactRow : OpenClaim := { program := "ytgcgafkedhohcaadoor", sum := "7ea4669e25d21f6df075f17868dc934a6164d6f7caa9e77da15ba0386a0b6b99", func := "github.com/google/go-jsonnet/n008_134.FnLexUntilNewlineExact", spec := "fnLexUntilNewlineExact", named := ["bytes.ErrTooLarge", "unicode/utf8.first", "unicode/utf8.acceptRanges"], apart := false, laid := [("unicode/utf8.acceptRanges", laid_unicode_utf8_acceptRanges), ("bytes.ErrTooLarge", laid_bytes_ErrTooLarge), ("unicode/utf8.first", laid_unicode_utf8_first)] }
def FnLexUntilNewlineExactSaid : Prop := fnLexUntilNewlineExactRow.holds Tryd.pinned (OpenSpec.ofChange fnLexUntilNewlineExactSpec)

/-- ITS FALSE NEIGHBOUR: 'it returns false'. Refute it at one input. -/
def fnLexUntilNewlineExactWrong : ChangeSpec := { name := "fnLexUntilNewlineExact", fn := fun _ => fun
  | [d] => { results := [.lit (.bool false)], args := [d] }
  | _ => none }
def FnLexUntilNewlineExactWrongFalsely : Prop := fnLexUntilNewlineExactRow.holds Tryd.pinned (OpenSpec.ofChange fnLexUntilNewlineExactWrong)

/-- 'n008_151.FnEmitTokenExact': WHATEVER THE INPUT: true; the input reads as it did. -/
def fnEmitTokenExactSpec : ChangeSpec := { name := "fnEmitTokenExact", fn := fun _ => fun
  | [d1, d2, d3, d4] => { results := [.lit (.bool true)], args := [d1, d2, d3, d4] }
  | _ => none }
def fnEmitTokenExactRow : OpenClaim := { program := "ytgcgafkedhohcaadoor", sum := "7ea4669e25d21f6df075f17868dc934a6164d6f7caa9e77da15ba0386a0b6b99", func := "github.com/google/go-jsonnet/n008_151.FnEmitTokenExact", spec := "fnEmitTokenExact", named := ["bytes.ErrTooLarge", "unicode/utf8.first", "unicode/utf8.acceptRanges"], apart := false, laid := [("unicode/utf8.acceptRanges", laid_unicode_utf8_acceptRanges), ("bytes.ErrTooLarge", laid_bytes_ErrTooLarge), ("unicode/utf8.first", laid_unicode_utf8_first)] }
def FnEmitTokenExactSaid : Prop := fnEmitTokenExactRow.holds Tryd.pinned (OpenSpec.ofChange fnEmitTokenExactSpec)

/-- ITS FALSE NEIGHBOUR: 'it returns false'. Refute it at one input. -/
def fnEmitTokenExactWrong : ChangeSpec := { name := "fnEmitTokenExact", fn := fun _ => fun
  | [d1, d2, d3, d4] => { results := [.lit (.bool false)], args := [d1, d2, d3, d4] }
  | _ => none }
def FnEmitTokenExactWrongFalsely : Prop := fnEmitTokenExactRow.holds Tryd.pinned (OpenSpec.ofChange fnEmitTokenExactWrong)

/-- 'n008_151.FnEmitTokenTilesInput': WHATEVER THE INPUT: true; the input reads as it did. -/
def fnEmitTokenTilesInputSpec : ChangeSpec := { name := "fnEmitTokenTilesInput", fn := fun _ => fun
  | [d1, d2] => { results := [.lit (.bool true)], args := [d1, d2] }
  | _ => none }
def fnEmitTokenTilesInputRow : OpenClaim := { program := "ytgcgafkedhohcaadoor", sum := "7ea4669e25d21f6df075f17868dc934a6164d6f7caa9e77da15ba0386a0b6b99", func := "github.com/google/go-jsonnet/n008_151.FnEmitTokenTilesInput", spec := "fnEmitTokenTilesInput", named := ["bytes.ErrTooLarge", "unicode/utf8.first", "unicode/utf8.acceptRanges"], apart := false, laid := [("unicode/utf8.acceptRanges", laid_unicode_utf8_acceptRanges), ("bytes.ErrTooLarge", laid_bytes_ErrTooLarge), ("unicode/utf8.first", laid_unicode_utf8_first)] }
def FnEmitTokenTilesInputSaid : Prop := fnEmitTokenTilesInputRow.holds Tryd.pinned (OpenSpec.ofChange fnEmitTokenTilesInputSpec)

/-- ITS FALSE NEIGHBOUR: 'it returns false'. Refute it at one input. -/
def fnEmitTokenTilesInputWrong : ChangeSpec := { name := "fnEmitTokenTilesInput", fn := fun _ => fun
  | [d1, d2] => { results := [.lit (.bool false)], args := [d1, d2] }
  | _ => none }
def FnEmitTokenTilesInputWrongFalsely : Prop := fnEmitTokenTilesInputRow.holds Tryd.pinned (OpenSpec.ofChange fnEmitTokenTilesInputWrong)

/- THE SECOND FORM. 'bulk': how many values and letters a reading holds, each counted each time it is reached (what is shared counts as often as it is met; a slice's spare places count too). A statement '..UptoSaid' is the law's where the arguments, and the package variables that the reading takes, are together of bulk at most 1048576: NARROWER than '..Said'. Prove '..Said' where nothing that the law and all that it calls make is longer than what came in: it says more and counts as full. Else prove '..UptoSaid'. A law counts once. -/
mutual
def uptoBulk {H : Type} : DataW H → Nat
  | .lit (.string bytes) => bytes.length + 1
  | .lit _ => 1
  | .nil => 1
  | .ptr d => uptoBulk d + 1
  | .slice elems spare => uptoBulkAll elems + uptoBulkAll spare + 1
  | .agg parts => uptoBulkAll parts + 1
  | .iface _ d => uptoBulk d + 1
  | .map entries => uptoBulkEntries entries + 1
  | .held _ => 1
def uptoBulkAll {H : Type} : List (DataW H) → Nat
  | [] => 0
  | d :: r => uptoBulk d + uptoBulkAll r
def uptoBulkEntries {H : Type} : List (Lit × DataW H) → Nat
  | [] => 0
  | x :: r => uptoBulkEntry x + uptoBulkEntries r
def uptoBulkEntry {H : Type} : Lit × DataW H → Nat
  | (.string bytes, d) => bytes.length + uptoBulk d + 1
  | (_, d) => uptoBulk d + 1
 end
def uptoSmall : (H : Type) → List (DataW H) → Bool := fun _ ds => decide (uptoBulkAll ds ≤ 1048576)
def OpenSpec.upto (s : _root_.Go.ChangeSpec) : _root_.Go.OpenSpec := { _root_.Go.OpenSpec.ofChange s with cond := some uptoSmall }

/-- 'n008_164.FnLexIdentifierAgreesWithIsValidIdentifier', WHERE WHAT IT READS IS OF BULK AT MOST 1048576: true; the input reads as it did. -/
def fnLexIdentifierAgreesWithIsValidIdentifierUptoRow : OpenClaim := { program := "ytgcgafkedhohcaadoor", sum := "7ea4669e25d21f6df075f17868dc934a6164d6f7caa9e77da15ba0386a0b6b99", func := "github.com/google/go-jsonnet/n008_164.FnLexIdentifierAgreesWithIsValidIdentifier", spec := "fnLexIdentifierAgreesWithIsValidIdentifier", named := ["bytes.ErrTooLarge", "unicode/utf8.first", "unicode/utf8.acceptRanges"], apart := false, laid := [("unicode/utf8.acceptRanges", laid_unicode_utf8_acceptRanges), ("bytes.ErrTooLarge", laid_bytes_ErrTooLarge), ("unicode/utf8.first", laid_unicode_utf8_first)], narrowed := true }
def FnLexIdentifierAgreesWithIsValidIdentifierUptoSaid : Prop := fnLexIdentifierAgreesWithIsValidIdentifierUptoRow.holds Tryd.pinned (OpenSpec.upto fnLexIdentifierAgreesWithIsValidIdentifierSpec)

/-- 'n008_151.FnResetTokenStartLocatesCursor', WHERE WHAT IT READS IS OF BULK AT MOST 1048576: true; the input reads as it did. -/
def fnResetTokenStartLocatesCursorUptoRow : OpenClaim := { program := "ytgcgafkedhohcaadoor", sum := "7ea4669e25d21f6df075f17868dc934a6164d6f7caa9e77da15ba0386a0b6b99", func := "github.com/google/go-jsonnet/n008_151.FnResetTokenStartLocatesCursor", spec := "fnResetTokenStartLocatesCursor", named := ["bytes.ErrTooLarge", "unicode/utf8.first", "unicode/utf8.acceptRanges"], apart := false, laid := [("unicode/utf8.acceptRanges", laid_unicode_utf8_acceptRanges), ("bytes.ErrTooLarge", laid_bytes_ErrTooLarge), ("unicode/utf8.first", laid_unicode_utf8_first)], narrowed := true }
def FnResetTokenStartLocatesCursorUptoSaid : Prop := fnResetTokenStartLocatesCursorUptoRow.holds Tryd.pinned (OpenSpec.upto fnResetTokenStartLocatesCursorSpec)

/-- 'n008_134.FnLexUntilNewlineExact', WHERE WHAT IT READS IS OF BULK AT MOST 1048576: true; the input reads as it did. -/
def fnLexUntilNewlineExactUptoRow : OpenClaim := { program := "ytgcgafkedhohcaadoor", sum := "7ea4669e25d21f6df075f17868dc934a6164d6f7caa9e77da15ba0386a0b6b99", func := "github.com/google/go-jsonnet/n008_134.FnLexUntilNewlineExact", spec := "fnLexUntilNewlineExact", named := ["bytes.ErrTooLarge", "unicode/utf8.first", "unicode/utf8.acceptRanges"], apart := false, laid := [("unicode/utf8.acceptRanges", laid_unicode_utf8_acceptRanges), ("bytes.ErrTooLarge", laid_bytes_ErrTooLarge), ("unicode/utf8.first", laid_unicode_utf8_first)], narrowed := true }
def FnLexUntilNewlineExactUptoSaid : Prop := fnLexUntilNewlineExactUptoRow.holds Tryd.pinned (OpenSpec.upto fnLexUntilNewlineExactSpec)

/-- 'n008_151.FnEmitTokenExact', WHERE WHAT IT READS IS OF BULK AT MOST 1048576: true; the input reads as it did. -/
def fnEmitTokenExactUptoRow : OpenClaim := { program := "ytgcgafkedhohcaadoor", sum := "7ea4669e25d21f6df075f17868dc934a6164d6f7caa9e77da15ba0386a0b6b99", func := "github.com/google/go-jsonnet/n008_151.FnEmitTokenExact", spec := "fnEmitTokenExact", named := ["bytes.ErrTooLarge", "unicode/utf8.first", "unicode/utf8.acceptRanges"], apart := false, laid := [("unicode/utf8.acceptRanges", laid_unicode_utf8_acceptRanges), ("bytes.ErrTooLarge", laid_bytes_ErrTooLarge), ("unicode/utf8.first", laid_unicode_utf8_first)], narrowed := true }
def FnEmitTokenExactUptoSaid : Prop := fnEmitTokenExactUptoRow.holds Tryd.pinned (OpenSpec.upto fnEmitTokenExactSpec)

/-- 'n008_151.FnEmitTokenTilesInput', WHERE WHAT IT READS IS OF BULK AT MOST 1048576: true; the input reads as it did. -/
def fnEmitTokenTilesInputUptoRow : OpenClaim := { program := "ytgcgafkedhohcaadoor", sum := "7ea4669e25d21f6df075f17868dc934a6164d6f7caa9e77da15ba0386a0b6b99", func := "github.com/google/go-jsonnet/n008_151.FnEmitTokenTilesInput", spec := "fnEmitTokenTilesInput", named := ["bytes.ErrTooLarge", "unicode/utf8.first", "unicode/utf8.acceptRanges"], apart := false, laid := [("unicode/utf8.acceptRanges", laid_unicode_utf8_acceptRanges), ("bytes.ErrTooLarge", laid_bytes_ErrTooLarge), ("unicode/utf8.first", laid_unicode_utf8_first)], narrowed := true }
def FnEmitTokenTilesInputUptoSaid : Prop := fnEmitTokenTilesInputUptoRow.holds Tryd.pinned (OpenSpec.upto fnEmitTokenTilesInputSpec)

end Rows
end Go.Proofs.YtgcgafkedhohcaaDoor
