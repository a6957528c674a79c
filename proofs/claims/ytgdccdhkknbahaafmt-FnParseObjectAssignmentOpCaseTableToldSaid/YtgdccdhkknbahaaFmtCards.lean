/-
  DERIVED. GIVEN WITH THE SEED: THE CARDS: each row of YtgdccdhkknbahaaFmtRows.lean that lists a variable, with what it lists TIED to the program's text (the seventh form; the later family's looks); each row that meets fmt, with fmt's text TOLD by the authors' own Lean function (tested against real Go, not proved from fmt's source: count such statements apart). THE CARD IS WHAT COUNTS. Prove the row's statement (the work); the ties are given (YtgdccdhkknbahaaFmtTie.lean); close each card by the builder's one call (the guide's Derived/Test/ToyasCard.lean, 'card_holds'). Laid BY PROGRAM, IN A SANDBOX (cutbox-door.mjs). By AI agents, Wed Nov 11 2026. No macro, syntax, notation, axiom, sorry.
-/
import Derived.Test.YtgdccdhkknbahaaFmtRows
import GoSem.ClaimSeven
namespace Go.Proofs.YtgdccdhkknbahaaFmt
namespace Rows

/-- THE TOLD AND TIED CARD OF 'n008_160.FnTokenStringToAstEscapesCompose'. -/
def fnTokenStringToAstEscapesComposeCard : Claim7 := { stood := { row := fnTokenStringToAstEscapesComposeRow, standIns := [], harness := (true, "a1592d5a39c79b1f6b15cead5660460bdc03bcd7f8d1ff0d6217239e5ae83ace"), looks := false }, told := true, laidByText := true, laidKinds := [.data, .sentinel, .sentinel, .pinned], laidTests := true, laidLooks := .later, goes := false }
def FnTokenStringToAstEscapesComposeToldSaid : Prop := Claim7.holds Tryf.pinned (.plain (OpenSpec.ofChange fnTokenStringToAstEscapesComposeSpec)) fnTokenStringToAstEscapesComposeCard
/-- ITS FALSE NEIGHBOUR. Refute it at one input. -/
def FnTokenStringToAstEscapesComposeToldWrongFalsely : Prop := Claim7.holds Tryf.pinned (.plain (OpenSpec.ofChange fnTokenStringToAstEscapesComposeWrong)) fnTokenStringToAstEscapesComposeCard

/-- THE TOLD AND TIED CARD OF 'n008_160.FnTokenStringToAstCaseTable'. -/
def fnTokenStringToAstCaseTableCard : Claim7 := { stood := { row := fnTokenStringToAstCaseTableRow, standIns := [], harness := (true, "a1592d5a39c79b1f6b15cead5660460bdc03bcd7f8d1ff0d6217239e5ae83ace"), looks := false }, told := true, laidByText := true, laidKinds := [.data, .sentinel, .sentinel, .pinned], laidTests := true, laidLooks := .later, goes := false }
def FnTokenStringToAstCaseTableToldSaid : Prop := Claim7.holds Tryf.pinned (.plain (OpenSpec.ofChange fnTokenStringToAstCaseTableSpec)) fnTokenStringToAstCaseTableCard
/-- ITS FALSE NEIGHBOUR. Refute it at one input. -/
def FnTokenStringToAstCaseTableToldWrongFalsely : Prop := Claim7.holds Tryf.pinned (.plain (OpenSpec.ofChange fnTokenStringToAstCaseTableWrong)) fnTokenStringToAstCaseTableCard

/-- THE TOLD CARD OF 'n008_138.FnParseObjectAssignmentOpCaseTable'. -/
def fnParseObjectAssignmentOpCaseTableCard : Claim7 := { stood := { row := fnParseObjectAssignmentOpCaseTableRow, standIns := [], harness := (true, "a1592d5a39c79b1f6b15cead5660460bdc03bcd7f8d1ff0d6217239e5ae83ace"), looks := false }, told := true, goes := false }
def FnParseObjectAssignmentOpCaseTableToldSaid : Prop := Claim7.holds Tryf.pinned (.plain (OpenSpec.ofChange fnParseObjectAssignmentOpCaseTableSpec)) fnParseObjectAssignmentOpCaseTableCard
/-- ITS FALSE NEIGHBOUR. Refute it at one input. -/
def FnParseObjectAssignmentOpCaseTableToldWrongFalsely : Prop := Claim7.holds Tryf.pinned (.plain (OpenSpec.ofChange fnParseObjectAssignmentOpCaseTableWrong)) fnParseObjectAssignmentOpCaseTableCard

/-- THE TOLD CARD OF 'n008_34.FnPeekAgreesWithPop'. -/
def fnPeekAgreesWithPopCard : Claim7 := { stood := { row := fnPeekAgreesWithPopRow, standIns := [], harness := (true, "a1592d5a39c79b1f6b15cead5660460bdc03bcd7f8d1ff0d6217239e5ae83ace"), looks := false }, told := true, goes := false }
def FnPeekAgreesWithPopToldSaid : Prop := Claim7.holds Tryf.pinned (.plain (OpenSpec.ofChange fnPeekAgreesWithPopSpec)) fnPeekAgreesWithPopCard
/-- ITS FALSE NEIGHBOUR. Refute it at one input. -/
def FnPeekAgreesWithPopToldWrongFalsely : Prop := Claim7.holds Tryf.pinned (.plain (OpenSpec.ofChange fnPeekAgreesWithPopWrong)) fnPeekAgreesWithPopCard
end Rows
end Go.Proofs.YtgdccdhkknbahaaFmt
