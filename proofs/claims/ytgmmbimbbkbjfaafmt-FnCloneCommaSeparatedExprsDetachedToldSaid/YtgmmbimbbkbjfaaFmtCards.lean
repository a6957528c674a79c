/-
  DERIVED. GIVEN WITH THE SEED: THE CARDS: each row of YtgmmbimbbkbjfaaFmtRows.lean that lists a variable, with what it lists TIED to the program's text (the seventh form; the later family's looks); each row that meets fmt, with fmt's text TOLD by the authors' own Lean function (tested against real Go, not proved from fmt's source: count such statements apart). THE CARD IS WHAT COUNTS. Prove the row's statement (the work); the ties are given (YtgmmbimbbkbjfaaFmtTie.lean); close each card by the builder's one call (the guide's Derived/Test/ToyasCard.lean, 'card_holds'). Laid BY PROGRAM, IN A SANDBOX (cutbox-door.mjs). By AI agents, Wed Nov 11 2026. No macro, syntax, notation, axiom, sorry.
-/
import Derived.Test.YtgmmbimbbkbjfaaFmtRows
import GoSem.ClaimSeven
namespace Go.Proofs.YtgmmbimbbkbjfaaFmt
namespace Rows

/-- THE TOLD CARD OF 'n008_19.FnCloneDesugaredFieldSpec'. -/
def fnCloneDesugaredFieldSpecCard : Claim7 := { stood := { row := fnCloneDesugaredFieldSpecRow, standIns := [], harness := (true, "699f3d4fa2a1a56c0d0841c2918612b4d7bab4b68a9cb1880e0656a10c4897f7"), looks := true }, told := true, goes := false }
def FnCloneDesugaredFieldSpecToldSaid : Prop := Claim7.holds Tryf.pinned (.plain (OpenSpec.ofChange fnCloneDesugaredFieldSpecSpec)) fnCloneDesugaredFieldSpecCard
/-- ITS FALSE NEIGHBOUR. Refute it at one input. -/
def FnCloneDesugaredFieldSpecToldWrongFalsely : Prop := Claim7.holds Tryf.pinned (.plain (OpenSpec.ofChange fnCloneDesugaredFieldSpecWrong)) fnCloneDesugaredFieldSpecCard

/-- THE TOLD CARD OF 'n008_19.FnCloneCommaSeparatedExprsDetached'. -/
def fnCloneCommaSeparatedExprsDetachedCard : Claim7 := { stood := { row := fnCloneCommaSeparatedExprsDetachedRow, standIns := [], harness := (true, "699f3d4fa2a1a56c0d0841c2918612b4d7bab4b68a9cb1880e0656a10c4897f7"), looks := true }, told := true, goes := false }
def FnCloneCommaSeparatedExprsDetachedToldSaid : Prop := Claim7.holds Tryf.pinned (.plain (OpenSpec.ofChange fnCloneCommaSeparatedExprsDetachedSpec)) fnCloneCommaSeparatedExprsDetachedCard
/-- ITS FALSE NEIGHBOUR. Refute it at one input. -/
def FnCloneCommaSeparatedExprsDetachedToldWrongFalsely : Prop := Claim7.holds Tryf.pinned (.plain (OpenSpec.ofChange fnCloneCommaSeparatedExprsDetachedWrong)) fnCloneCommaSeparatedExprsDetachedCard

/-- THE TOLD CARD OF 'n008_25.FnFreeVariablesCloneIndependent'. -/
def fnFreeVariablesCloneIndependentCard : Claim7 := { stood := { row := fnFreeVariablesCloneIndependentRow, standIns := [], harness := (true, "699f3d4fa2a1a56c0d0841c2918612b4d7bab4b68a9cb1880e0656a10c4897f7"), looks := true }, told := true, goes := false }
def FnFreeVariablesCloneIndependentToldSaid : Prop := Claim7.holds Tryf.pinned (.plain (OpenSpec.ofChange fnFreeVariablesCloneIndependentSpec)) fnFreeVariablesCloneIndependentCard
/-- ITS FALSE NEIGHBOUR. Refute it at one input. -/
def FnFreeVariablesCloneIndependentToldWrongFalsely : Prop := Claim7.holds Tryf.pinned (.plain (OpenSpec.ofChange fnFreeVariablesCloneIndependentWrong)) fnFreeVariablesCloneIndependentCard

/-- THE TOLD CARD OF 'n008_19.FnCloneDesugaredFieldDetached'. -/
def fnCloneDesugaredFieldDetachedCard : Claim7 := { stood := { row := fnCloneDesugaredFieldDetachedRow, standIns := [], harness := (true, "699f3d4fa2a1a56c0d0841c2918612b4d7bab4b68a9cb1880e0656a10c4897f7"), looks := true }, told := true, goes := false }
def FnCloneDesugaredFieldDetachedToldSaid : Prop := Claim7.holds Tryf.pinned (.plain (OpenSpec.ofChange fnCloneDesugaredFieldDetachedSpec)) fnCloneDesugaredFieldDetachedCard
/-- ITS FALSE NEIGHBOUR. Refute it at one input. -/
def FnCloneDesugaredFieldDetachedToldWrongFalsely : Prop := Claim7.holds Tryf.pinned (.plain (OpenSpec.ofChange fnCloneDesugaredFieldDetachedWrong)) fnCloneDesugaredFieldDetachedCard

/-- THE TOLD CARD OF 'n008_147.FnCloneBinaryUnsharesChildren'. -/
def fnCloneBinaryUnsharesChildrenCard : Claim7 := { stood := { row := fnCloneBinaryUnsharesChildrenRow, standIns := [], harness := (true, "699f3d4fa2a1a56c0d0841c2918612b4d7bab4b68a9cb1880e0656a10c4897f7"), looks := true }, told := true, goes := false }
def FnCloneBinaryUnsharesChildrenToldSaid : Prop := Claim7.holds Tryf.pinned (.plain (OpenSpec.ofChange fnCloneBinaryUnsharesChildrenSpec)) fnCloneBinaryUnsharesChildrenCard
/-- ITS FALSE NEIGHBOUR. Refute it at one input. -/
def FnCloneBinaryUnsharesChildrenToldWrongFalsely : Prop := Claim7.holds Tryf.pinned (.plain (OpenSpec.ofChange fnCloneBinaryUnsharesChildrenWrong)) fnCloneBinaryUnsharesChildrenCard
end Rows
end Go.Proofs.YtgmmbimbbkbjfaaFmt
