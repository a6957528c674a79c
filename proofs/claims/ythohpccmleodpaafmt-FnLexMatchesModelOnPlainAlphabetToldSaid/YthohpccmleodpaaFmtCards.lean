/-
  DERIVED. GIVEN WITH THE SEED: THE CARDS: each row of YthohpccmleodpaaFmtRows.lean that lists a variable, with what it lists TIED to the program's text (the seventh form; the later family's looks); each row that meets fmt, with fmt's text TOLD by the authors' own Lean function (tested against real Go, not proved from fmt's source: count such statements apart). THE CARD IS WHAT COUNTS. Prove the row's statement (the work); the ties are given (YthohpccmleodpaaFmtTie.lean); close each card by the builder's one call (the guide's Derived/Test/ToyasCard.lean, 'card_holds'). Laid BY PROGRAM, IN A SANDBOX (cutbox-door.mjs). By AI agents, Wed Nov 11 2026. No macro, syntax, notation, axiom, sorry.
-/
import Derived.Test.YthohpccmleodpaaFmtRows
import GoSem.ClaimSeven
namespace Go.Proofs.YthohpccmleodpaaFmt
namespace Rows

/-- THE TOLD AND TIED CARD OF 'n008_32.FnLexMatchesModelOnPlainAlphabet'. -/
def fnLexMatchesModelOnPlainAlphabetCard : Claim7 := { stood := { row := fnLexMatchesModelOnPlainAlphabetRow, standIns := [], harness := (true, "b5172ff915854f1b7495b996ae3e978f571c3286b9e3aea8a0b446dcc8c73f8d"), looks := false }, told := true, laidByText := true, laidKinds := [.data, .sentinel, .pinned, .pinned, .pinned, .pinned, .pinned, .pinned], laidTests := true, laidLooks := .later, goes := false }
def FnLexMatchesModelOnPlainAlphabetToldSaid : Prop := Claim7.holds Tryf.pinned (.plain (OpenSpec.ofChange fnLexMatchesModelOnPlainAlphabetSpec)) fnLexMatchesModelOnPlainAlphabetCard
/-- ITS FALSE NEIGHBOUR. Refute it at one input. -/
def FnLexMatchesModelOnPlainAlphabetToldWrongFalsely : Prop := Claim7.holds Tryf.pinned (.plain (OpenSpec.ofChange fnLexMatchesModelOnPlainAlphabetWrong)) fnLexMatchesModelOnPlainAlphabetCard
end Rows
end Go.Proofs.YthohpccmleodpaaFmt
