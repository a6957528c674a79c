/-
  NARROWER THAN 'FOR EVERY INPUT', by the rows' own cells (each row's printed sentence says how): FnAddFodderRecordsScript: laid · FnEmitFullTokenHandsOverFodderOnce: laid.
  DERIVED. THE GIVEN ROWS OF THIS SEAT. 2 by the template 'for every input the law returns true; each argument reads behind the call as it read before'; 0 by the template 'total and deterministic' (their statements: YtkciiihffnimpaaFmtTotals.lean).
  GIVEN WITH THE SEED: the statements are not yours to turn. If you find one false, say at which input.
  Laid BY PROGRAM, IN A SANDBOX (cutbox-rows.mjs): the forced cells as the released guide's own fill.sh prints them over the translation 71b8e70f45442b04… (all of the seat's roots in one cut). By AI agents, Wed Nov 11 2026. No macro, syntax, notation, axiom, sorry.
-/
import Derived.Test.YtkciiihffnimpaaFmtChecked
import GoSem.PinnedTables
import GoSem.Claim
import GoSem.ClaimJoined
import GoSem.ClaimMapViews
import Derived.JoinedTies
import Derived.KernelRfl
namespace Go.Proofs.YtkciiihffnimpaaFmt
/- THE CELL 'sum', in the pinned program and in every row, IS THE sha256 OF THE DUMP (.gsa) THAT YtkciiihffnimpaaFmtProg.lean LOADS. Nothing in Lean hashes anything: it is a label: what it is worth is what the hold of that sum in a sandbox is worth. -/
noncomputable def Tryf.pinned : Pinned := { name := "ytkciiihffnimpaafmt", sum := "71b8e70f45442b0460bef1f022c8534e12b70c2a0b69f9237f1eb96818705b75", checked := Tryf.checked }
namespace Rows
def none {H : Type} : Left H := { results := [], args := [] }

/- WHAT THE LISTED PACKAGE-LEVEL VARIABLES READ AS WHEN THE CALL BEGINS. Each datum BY PROGRAM (the guide's laid-datum.mjs) off the statement by which the dump's own 'gosem.cut.vars' lays the variable. In a bare row this is a premise. The card (YtkciiihffnimpaaFmtCards.lean) ties it to the program's text. -/
def laid_unicode_utf8_acceptRanges {H : Type} : DataW H := .agg [.agg [.lit (.int .u8 128), .lit (.int .u8 191)], .agg [.lit (.int .u8 160), .lit (.int .u8 191)], .agg [.lit (.int .u8 128), .lit (.int .u8 159)], .agg [.lit (.int .u8 144), .lit (.int .u8 191)], .agg [.lit (.int .u8 128), .lit (.int .u8 143)], .agg [.lit (.int .u8 0), .lit (.int .u8 0)], .agg [.lit (.int .u8 0), .lit (.int .u8 0)], .agg [.lit (.int .u8 0), .lit (.int .u8 0)], .agg [.lit (.int .u8 0), .lit (.int .u8 0)], .agg [.lit (.int .u8 0), .lit (.int .u8 0)], .agg [.lit (.int .u8 0), .lit (.int .u8 0)], .agg [.lit (.int .u8 0), .lit (.int .u8 0)], .agg [.lit (.int .u8 0), .lit (.int .u8 0)], .agg [.lit (.int .u8 0), .lit (.int .u8 0)], .agg [.lit (.int .u8 0), .lit (.int .u8 0)], .agg [.lit (.int .u8 0), .lit (.int .u8 0)]]
def laid_bytes_ErrTooLarge {H : Type} : DataW H := .iface "*errors.errorString" (.ptr (.agg [.lit (.string [98, 121, 116, 101, 115, 46, 66, 117, 102, 102, 101, 114, 58, 32, 116, 111, 111, 32, 108, 97, 114, 103, 101])]))
/-- One of Go's own tables, pinned by name: the form's constant. -/
def laid_unicode_utf8_first : DataW Unit := Go.Pinned.utf8First

/-- 'n008_151.FnAddFodderRecordsScript': WHATEVER THE INPUT: true; the input reads as it did. -/
def fnAddFodderRecordsScriptSpec : ChangeSpec := { name := "fnAddFodderRecordsScript", fn := fun _ => fun
  | [d1, d2, d3, d4] => { results := [.lit (.bool true)], args := [d1, d2, d3, d4] }
  | _ => none }
def fnAddFodderRecordsScriptRow : OpenClaim := { program := "ytkciiihffnimpaafmt", sum := "71b8e70f45442b0460bef1f022c8534e12b70c2a0b69f9237f1eb96818705b75", func := "github.com/google/go-jsonnet/n008_151.FnAddFodderRecordsScript", spec := "fnAddFodderRecordsScript", stops := ["fmt.Sprintf"], inPlace := ["fmt.Sprintf"], named := ["bytes.ErrTooLarge", "unicode/utf8.first", "unicode/utf8.acceptRanges"], apart := false, laid := [("unicode/utf8.acceptRanges", laid_unicode_utf8_acceptRanges), ("bytes.ErrTooLarge", laid_bytes_ErrTooLarge), ("unicode/utf8.first", laid_unicode_utf8_first)] }
/-- NO THEOREM (fmt's text is open here; it may be false): for the released tool's asking of the row's closed facts alone. THE STATEMENT IS 'FnAddFodderRecordsScriptToldSaid' (YtkciiihffnimpaaFmtCards.lean). -/
def FnAddFodderRecordsScriptFormAsk : Prop := fnAddFodderRecordsScriptRow.holds Tryf.pinned (OpenSpec.ofChange fnAddFodderRecordsScriptSpec)

/-- ITS FALSE NEIGHBOUR: 'it returns false'. Refute it at one input. -/
def fnAddFodderRecordsScriptWrong : ChangeSpec := { name := "fnAddFodderRecordsScript", fn := fun _ => fun
  | [d1, d2, d3, d4] => { results := [.lit (.bool false)], args := [d1, d2, d3, d4] }
  | _ => none }
def FnAddFodderRecordsScriptWrongFormAsk : Prop := fnAddFodderRecordsScriptRow.holds Tryf.pinned (OpenSpec.ofChange fnAddFodderRecordsScriptWrong)

/-- 'n008_151.FnEmitFullTokenHandsOverFodderOnce': WHATEVER THE INPUT: true; the input reads as it did. -/
def fnEmitFullTokenHandsOverFodderOnceSpec : ChangeSpec := { name := "fnEmitFullTokenHandsOverFodderOnce", fn := fun _ => fun
  | [d1, d2, d3] => { results := [.lit (.bool true)], args := [d1, d2, d3] }
  | _ => none }
def fnEmitFullTokenHandsOverFodderOnceRow : OpenClaim := { program := "ytkciiihffnimpaafmt", sum := "71b8e70f45442b0460bef1f022c8534e12b70c2a0b69f9237f1eb96818705b75", func := "github.com/google/go-jsonnet/n008_151.FnEmitFullTokenHandsOverFodderOnce", spec := "fnEmitFullTokenHandsOverFodderOnce", stops := ["fmt.Sprintf"], inPlace := ["fmt.Sprintf"], named := ["bytes.ErrTooLarge", "unicode/utf8.first", "unicode/utf8.acceptRanges"], apart := false, laid := [("unicode/utf8.acceptRanges", laid_unicode_utf8_acceptRanges), ("bytes.ErrTooLarge", laid_bytes_ErrTooLarge), ("unicode/utf8.first", laid_unicode_utf8_first)] }
/-- NO THEOREM (fmt's text is open here; it may be false): for the released tool's asking of the row's closed facts alone. THE STATEMENT IS 'FnEmitFullTokenHandsOverFodderOnceToldSaid' (YtkciiihffnimpaaFmtCards.lean). -/
def FnEmitFullTokenHandsOverFodderOnceFormAsk : Prop := fnEmitFullTokenHandsOverFodderOnceRow.holds Tryf.pinned (OpenSpec.ofChange fnEmitFullTokenHandsOverFodderOnceSpec)

/-- ITS FALSE NEIGHBOUR: 'it returns false'. Refute it at one input. -/
def fnEmitFullTokenHandsOverFodderOnceWrong : ChangeSpec := { name := "fnEmitFullTokenHandsOverFodderOnce", fn := fun _ => fun
  | [d1, d2, d3] => { results := [.lit (.bool false)], args := [d1, d2, d3] }
  | _ => none }
def FnEmitFullTokenHandsOverFodderOnceWrongFormAsk : Prop := fnEmitFullTokenHandsOverFodderOnceRow.holds Tryf.pinned (OpenSpec.ofChange fnEmitFullTokenHandsOverFodderOnceWrong)

end Rows
end Go.Proofs.YtkciiihffnimpaaFmt
