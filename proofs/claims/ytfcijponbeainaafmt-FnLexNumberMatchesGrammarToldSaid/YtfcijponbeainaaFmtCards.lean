/-
  DERIVED. GIVEN WITH THE SEED: THE CARDS: each row of YtfcijponbeainaaFmtRows.lean that lists a variable, with what it lists TIED to the program's text (the seventh form; the later family's looks); each row that meets fmt, with fmt's text TOLD by the authors' own Lean function (tested against real Go, not proved from fmt's source: count such statements apart). THE CARD IS WHAT COUNTS. Prove the row's statement (the work); the ties are given (YtfcijponbeainaaFmtTie.lean); close each card by the builder's one call (the guide's Derived/Test/ToyasCard.lean, 'card_holds'). Laid BY PROGRAM, IN A SANDBOX (cutbox-door.mjs). By AI agents, Wed Nov 11 2026. No macro, syntax, notation, axiom, sorry.
-/
import Derived.Test.YtfcijponbeainaaFmtRows
import GoSem.ClaimSeven
namespace Go.Proofs.YtfcijponbeainaaFmt
namespace Rows

/-- THE TOLD AND TIED CARD OF 'n008_164.FnLexNumberMatchesGrammar'. -/
def fnLexNumberMatchesGrammarCard : Claim7 := { stood := { row := fnLexNumberMatchesGrammarRow, standIns := [], harness := (true, "e30d6a64c326f84c75a4807fbe397b7871b4de65d361f677c0faf2c185b2c554"), looks := false }, told := true, laidByText := true, laidKinds := [.data, .sentinel, .pinned, .pinned, .pinned, .pinned, .pinned, .pinned], laidTests := true, laidLooks := .later, goes := false }
def FnLexNumberMatchesGrammarToldSaid : Prop := Claim7.holds Tryf.pinned (.plain (OpenSpec.ofChange fnLexNumberMatchesGrammarSpec)) fnLexNumberMatchesGrammarCard
/-- ITS FALSE NEIGHBOUR. Refute it at one input. -/
def FnLexNumberMatchesGrammarToldWrongFalsely : Prop := Claim7.holds Tryf.pinned (.plain (OpenSpec.ofChange fnLexNumberMatchesGrammarWrong)) fnLexNumberMatchesGrammarCard

/-- THE TOLD AND TIED CARD OF 'n008_164.FnLexNumberReadsOneRunePast'. -/
def fnLexNumberReadsOneRunePastCard : Claim7 := { stood := { row := fnLexNumberReadsOneRunePastRow, standIns := [], harness := (true, "e30d6a64c326f84c75a4807fbe397b7871b4de65d361f677c0faf2c185b2c554"), looks := false }, told := true, laidByText := true, laidKinds := [.data, .sentinel, .pinned, .pinned, .pinned, .pinned, .pinned, .pinned], laidTests := true, laidLooks := .later, goes := false }
def FnLexNumberReadsOneRunePastToldSaid : Prop := Claim7.holds Tryf.pinned (.plain (OpenSpec.ofChange fnLexNumberReadsOneRunePastSpec)) fnLexNumberReadsOneRunePastCard
/-- ITS FALSE NEIGHBOUR. Refute it at one input. -/
def FnLexNumberReadsOneRunePastToldWrongFalsely : Prop := Claim7.holds Tryf.pinned (.plain (OpenSpec.ofChange fnLexNumberReadsOneRunePastWrong)) fnLexNumberReadsOneRunePastCard
end Rows
end Go.Proofs.YtfcijponbeainaaFmt
