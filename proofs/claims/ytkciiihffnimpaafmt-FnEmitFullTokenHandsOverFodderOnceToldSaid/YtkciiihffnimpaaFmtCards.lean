/-
  DERIVED. GIVEN WITH THE SEED: THE CARDS: each row of YtkciiihffnimpaaFmtRows.lean that lists a variable, with what it lists TIED to the program's text (the seventh form; the later family's looks); each row that meets fmt, with fmt's text TOLD by the authors' own Lean function (tested against real Go, not proved from fmt's source: count such statements apart). THE CARD IS WHAT COUNTS. Prove the row's statement (the work); the ties are given (YtkciiihffnimpaaFmtTie.lean); close each card by the builder's one call (the guide's Derived/Test/ToyasCard.lean, 'card_holds'). Laid BY PROGRAM, IN A SANDBOX (cutbox-door.mjs). By AI agents, Wed Nov 11 2026. No macro, syntax, notation, axiom, sorry.
-/
import Derived.Test.YtkciiihffnimpaaFmtRows
import GoSem.ClaimSeven
namespace Go.Proofs.YtkciiihffnimpaaFmt
namespace Rows

/-- THE TOLD AND TIED CARD OF 'n008_151.FnAddFodderRecordsScript'. -/
def fnAddFodderRecordsScriptCard : Claim7 := { stood := { row := fnAddFodderRecordsScriptRow, standIns := [], harness := (true, "d48ad432709f7cf6a94b719c023ece96b6010560628b325f6eecfa8ceea88b84"), looks := false }, told := true, laidByText := true, laidKinds := [.data, .sentinel, .pinned], laidTests := true, laidLooks := .later, goes := false }
def FnAddFodderRecordsScriptToldSaid : Prop := Claim7.holds Tryf.pinned (.plain (OpenSpec.ofChange fnAddFodderRecordsScriptSpec)) fnAddFodderRecordsScriptCard
/-- ITS FALSE NEIGHBOUR. Refute it at one input. -/
def FnAddFodderRecordsScriptToldWrongFalsely : Prop := Claim7.holds Tryf.pinned (.plain (OpenSpec.ofChange fnAddFodderRecordsScriptWrong)) fnAddFodderRecordsScriptCard

/-- THE TOLD AND TIED CARD OF 'n008_151.FnEmitFullTokenHandsOverFodderOnce'. -/
def fnEmitFullTokenHandsOverFodderOnceCard : Claim7 := { stood := { row := fnEmitFullTokenHandsOverFodderOnceRow, standIns := [], harness := (true, "d48ad432709f7cf6a94b719c023ece96b6010560628b325f6eecfa8ceea88b84"), looks := false }, told := true, laidByText := true, laidKinds := [.data, .sentinel, .pinned], laidTests := true, laidLooks := .later, goes := false }
def FnEmitFullTokenHandsOverFodderOnceToldSaid : Prop := Claim7.holds Tryf.pinned (.plain (OpenSpec.ofChange fnEmitFullTokenHandsOverFodderOnceSpec)) fnEmitFullTokenHandsOverFodderOnceCard
/-- ITS FALSE NEIGHBOUR. Refute it at one input. -/
def FnEmitFullTokenHandsOverFodderOnceToldWrongFalsely : Prop := Claim7.holds Tryf.pinned (.plain (OpenSpec.ofChange fnEmitFullTokenHandsOverFodderOnceWrong)) fnEmitFullTokenHandsOverFodderOnceCard
end Rows
end Go.Proofs.YtkciiihffnimpaaFmt
