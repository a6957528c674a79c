/-
  DERIVED. GIVEN WITH THE SEED: THE CARDS: each row of YtgdlfcgboghadaaFmtRows.lean that lists a variable, with what it lists TIED to the program's text (the seventh form; the later family's looks); each row that meets fmt, with fmt's text TOLD by the authors' own Lean function (tested against real Go, not proved from fmt's source: count such statements apart). THE CARD IS WHAT COUNTS. Prove the row's statement (the work); the ties are given (YtgdlfcgboghadaaFmtTie.lean); close each card by the builder's one call (the guide's Derived/Test/ToyasCard.lean, 'card_holds'). Laid BY PROGRAM, IN A SANDBOX (cutbox-door.mjs). By AI agents, Wed Nov 11 2026. No macro, syntax, notation, axiom, sorry.
-/
import Derived.Test.YtgdlfcgboghadaaFmtRows
import GoSem.ClaimSeven
namespace Go.Proofs.YtgdlfcgboghadaaFmt
namespace Rows

/-- THE TOLD AND TIED CARD OF 'n008_160.FnTokenStringToAstEscapesCompose'. -/
def fnTokenStringToAstEscapesComposeCard : Claim7 := { stood := { row := fnTokenStringToAstEscapesComposeRow, standIns := [], harness := (true, "5cd7dd23260b316beb046d0ac3d8bbeb7a0ad2d6c47d45816404ed471d7b6840"), looks := false }, told := true, laidByText := true, laidKinds := [.data, .sentinel, .sentinel, .pinned], laidTests := true, laidLooks := .later, goes := false }
def FnTokenStringToAstEscapesComposeToldSaid : Prop := Claim7.holds Tryf.pinned (.plain (OpenSpec.ofChange fnTokenStringToAstEscapesComposeSpec)) fnTokenStringToAstEscapesComposeCard
/-- ITS FALSE NEIGHBOUR. Refute it at one input. -/
def FnTokenStringToAstEscapesComposeToldWrongFalsely : Prop := Claim7.holds Tryf.pinned (.plain (OpenSpec.ofChange fnTokenStringToAstEscapesComposeWrong)) fnTokenStringToAstEscapesComposeCard

/-- THE TOLD AND TIED CARD OF 'n008_160.FnTokenStringToAstCaseTable'. -/
def fnTokenStringToAstCaseTableCard : Claim7 := { stood := { row := fnTokenStringToAstCaseTableRow, standIns := [], harness := (true, "5cd7dd23260b316beb046d0ac3d8bbeb7a0ad2d6c47d45816404ed471d7b6840"), looks := false }, told := true, laidByText := true, laidKinds := [.data, .sentinel, .sentinel, .pinned], laidTests := true, laidLooks := .later, goes := false }
def FnTokenStringToAstCaseTableToldSaid : Prop := Claim7.holds Tryf.pinned (.plain (OpenSpec.ofChange fnTokenStringToAstCaseTableSpec)) fnTokenStringToAstCaseTableCard
/-- ITS FALSE NEIGHBOUR. Refute it at one input. -/
def FnTokenStringToAstCaseTableToldWrongFalsely : Prop := Claim7.holds Tryf.pinned (.plain (OpenSpec.ofChange fnTokenStringToAstCaseTableWrong)) fnTokenStringToAstCaseTableCard

/-- THE TOLD AND TIED CARD OF 'n008_164.FnLexSymbolCommentMatchesModel'. -/
def fnLexSymbolCommentMatchesModelCard : Claim7 := { stood := { row := fnLexSymbolCommentMatchesModelRow, standIns := [], harness := (true, "5cd7dd23260b316beb046d0ac3d8bbeb7a0ad2d6c47d45816404ed471d7b6840"), looks := false }, told := true, laidByText := true, laidKinds := [.data, .sentinel, .pinned], laidTests := true, laidLooks := .later, goes := false }
def FnLexSymbolCommentMatchesModelToldSaid : Prop := Claim7.holds Tryf.pinned (.plain (OpenSpec.ofChange fnLexSymbolCommentMatchesModelSpec)) fnLexSymbolCommentMatchesModelCard
/-- ITS FALSE NEIGHBOUR. Refute it at one input. -/
def FnLexSymbolCommentMatchesModelToldWrongFalsely : Prop := Claim7.holds Tryf.pinned (.plain (OpenSpec.ofChange fnLexSymbolCommentMatchesModelWrong)) fnLexSymbolCommentMatchesModelCard
end Rows
end Go.Proofs.YtgdlfcgboghadaaFmt
