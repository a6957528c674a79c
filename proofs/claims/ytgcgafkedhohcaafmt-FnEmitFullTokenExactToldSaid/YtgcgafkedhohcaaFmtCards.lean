/-
  DERIVED. GIVEN WITH THE SEED: THE CARDS: each row of YtgcgafkedhohcaaFmtRows.lean that lists a variable, with what it lists TIED to the program's text (the seventh form; the later family's looks); each row that meets fmt, with fmt's text TOLD by the authors' own Lean function (tested against real Go, not proved from fmt's source: count such statements apart). THE CARD IS WHAT COUNTS. Prove the row's statement (the work); the ties are given (YtgcgafkedhohcaaFmtTie.lean); close each card by the builder's one call (the guide's Derived/Test/ToyasCard.lean, 'card_holds'). Laid BY PROGRAM, IN A SANDBOX (cutbox-door.mjs). By AI agents, Wed Nov 11 2026. No macro, syntax, notation, axiom, sorry.
-/
import Derived.Test.YtgcgafkedhohcaaFmtRows
import GoSem.ClaimSeven
namespace Go.Proofs.YtgcgafkedhohcaaFmt
namespace Rows

/-- THE TOLD AND TIED CARD OF 'n008_151.FnAddFodderRecordsScript'. -/
def fnAddFodderRecordsScriptCard : Claim7 := { stood := { row := fnAddFodderRecordsScriptRow, standIns := [], harness := (true, "0f5a5faba153788949b6d04fb5b625e59e54e655ce3d00fc92dea677e46d04a6"), looks := false }, told := true, laidByText := true, laidKinds := [.data, .sentinel, .pinned], laidTests := true, laidLooks := .later, goes := false }
def FnAddFodderRecordsScriptToldSaid : Prop := Claim7.holds Tryf.pinned (.plain (OpenSpec.ofChange fnAddFodderRecordsScriptSpec)) fnAddFodderRecordsScriptCard
/-- ITS FALSE NEIGHBOUR. Refute it at one input. -/
def FnAddFodderRecordsScriptToldWrongFalsely : Prop := Claim7.holds Tryf.pinned (.plain (OpenSpec.ofChange fnAddFodderRecordsScriptWrong)) fnAddFodderRecordsScriptCard

/-- THE TOLD AND TIED CARD OF 'n008_164.FnLexNumberMatchesGrammar'. -/
def fnLexNumberMatchesGrammarCard : Claim7 := { stood := { row := fnLexNumberMatchesGrammarRow, standIns := [], harness := (true, "0f5a5faba153788949b6d04fb5b625e59e54e655ce3d00fc92dea677e46d04a6"), looks := false }, told := true, laidByText := true, laidKinds := [.data, .sentinel, .pinned, .pinned, .pinned, .pinned, .pinned, .pinned], laidTests := true, laidLooks := .later, goes := false }
def FnLexNumberMatchesGrammarToldSaid : Prop := Claim7.holds Tryf.pinned (.plain (OpenSpec.ofChange fnLexNumberMatchesGrammarSpec)) fnLexNumberMatchesGrammarCard
/-- ITS FALSE NEIGHBOUR. Refute it at one input. -/
def FnLexNumberMatchesGrammarToldWrongFalsely : Prop := Claim7.holds Tryf.pinned (.plain (OpenSpec.ofChange fnLexNumberMatchesGrammarWrong)) fnLexNumberMatchesGrammarCard

/-- THE TOLD AND TIED CARD OF 'n008_164.FnLexNumberReadsOneRunePast'. -/
def fnLexNumberReadsOneRunePastCard : Claim7 := { stood := { row := fnLexNumberReadsOneRunePastRow, standIns := [], harness := (true, "0f5a5faba153788949b6d04fb5b625e59e54e655ce3d00fc92dea677e46d04a6"), looks := false }, told := true, laidByText := true, laidKinds := [.data, .sentinel, .pinned, .pinned, .pinned, .pinned, .pinned, .pinned], laidTests := true, laidLooks := .later, goes := false }
def FnLexNumberReadsOneRunePastToldSaid : Prop := Claim7.holds Tryf.pinned (.plain (OpenSpec.ofChange fnLexNumberReadsOneRunePastSpec)) fnLexNumberReadsOneRunePastCard
/-- ITS FALSE NEIGHBOUR. Refute it at one input. -/
def FnLexNumberReadsOneRunePastToldWrongFalsely : Prop := Claim7.holds Tryf.pinned (.plain (OpenSpec.ofChange fnLexNumberReadsOneRunePastWrong)) fnLexNumberReadsOneRunePastCard

/-- THE TOLD AND TIED CARD OF 'n008_164.FnLexSymbolCommentMatchesModel'. -/
def fnLexSymbolCommentMatchesModelCard : Claim7 := { stood := { row := fnLexSymbolCommentMatchesModelRow, standIns := [], harness := (true, "0f5a5faba153788949b6d04fb5b625e59e54e655ce3d00fc92dea677e46d04a6"), looks := false }, told := true, laidByText := true, laidKinds := [.data, .sentinel, .pinned], laidTests := true, laidLooks := .later, goes := false }
def FnLexSymbolCommentMatchesModelToldSaid : Prop := Claim7.holds Tryf.pinned (.plain (OpenSpec.ofChange fnLexSymbolCommentMatchesModelSpec)) fnLexSymbolCommentMatchesModelCard
/-- ITS FALSE NEIGHBOUR. Refute it at one input. -/
def FnLexSymbolCommentMatchesModelToldWrongFalsely : Prop := Claim7.holds Tryf.pinned (.plain (OpenSpec.ofChange fnLexSymbolCommentMatchesModelWrong)) fnLexSymbolCommentMatchesModelCard

/-- THE TOLD AND TIED CARD OF 'n008_151.FnEmitFullTokenExact'. -/
def fnEmitFullTokenExactCard : Claim7 := { stood := { row := fnEmitFullTokenExactRow, standIns := [], harness := (true, "0f5a5faba153788949b6d04fb5b625e59e54e655ce3d00fc92dea677e46d04a6"), looks := false }, told := true, laidByText := true, laidKinds := [.data, .sentinel, .pinned], laidTests := true, laidLooks := .later, goes := false }
def FnEmitFullTokenExactToldSaid : Prop := Claim7.holds Tryf.pinned (.plain (OpenSpec.ofChange fnEmitFullTokenExactSpec)) fnEmitFullTokenExactCard
/-- ITS FALSE NEIGHBOUR. Refute it at one input. -/
def FnEmitFullTokenExactToldWrongFalsely : Prop := Claim7.holds Tryf.pinned (.plain (OpenSpec.ofChange fnEmitFullTokenExactWrong)) fnEmitFullTokenExactCard

/-- THE TOLD AND TIED CARD OF 'n008_151.FnEmitFullTokenHandsOverFodderOnce'. -/
def fnEmitFullTokenHandsOverFodderOnceCard : Claim7 := { stood := { row := fnEmitFullTokenHandsOverFodderOnceRow, standIns := [], harness := (true, "0f5a5faba153788949b6d04fb5b625e59e54e655ce3d00fc92dea677e46d04a6"), looks := false }, told := true, laidByText := true, laidKinds := [.data, .sentinel, .pinned], laidTests := true, laidLooks := .later, goes := false }
def FnEmitFullTokenHandsOverFodderOnceToldSaid : Prop := Claim7.holds Tryf.pinned (.plain (OpenSpec.ofChange fnEmitFullTokenHandsOverFodderOnceSpec)) fnEmitFullTokenHandsOverFodderOnceCard
/-- ITS FALSE NEIGHBOUR. Refute it at one input. -/
def FnEmitFullTokenHandsOverFodderOnceToldWrongFalsely : Prop := Claim7.holds Tryf.pinned (.plain (OpenSpec.ofChange fnEmitFullTokenHandsOverFodderOnceWrong)) fnEmitFullTokenHandsOverFodderOnceCard
end Rows
end Go.Proofs.YtgcgafkedhohcaaFmt
