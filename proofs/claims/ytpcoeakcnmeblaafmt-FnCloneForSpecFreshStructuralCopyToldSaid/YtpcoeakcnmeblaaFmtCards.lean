/-
  DERIVED. GIVEN WITH THE SEED: THE CARDS: each row of YtpcoeakcnmeblaaFmtRows.lean that lists a variable, with what it lists TIED to the program's text (the seventh form; the later family's looks); each row that meets fmt, with fmt's text TOLD by the authors' own Lean function (tested against real Go, not proved from fmt's source: count such statements apart). THE CARD IS WHAT COUNTS. Prove the row's statement (the work); the ties are given (YtpcoeakcnmeblaaFmtTie.lean); close each card by the builder's one call (the guide's Derived/Test/ToyasCard.lean, 'card_holds'). Laid BY PROGRAM, IN A SANDBOX (cutbox-door.mjs). By AI agents, Wed Nov 11 2026. No macro, syntax, notation, axiom, sorry.
-/
import Derived.Test.YtpcoeakcnmeblaaFmtRows
import GoSem.ClaimSeven
namespace Go.Proofs.YtpcoeakcnmeblaaFmt
namespace Rows

/-- THE TOLD CARD OF 'n008_165.FnCloneForSpecSharesConditionList'. -/
def fnCloneForSpecSharesConditionListCard : Claim7 := { stood := { row := fnCloneForSpecSharesConditionListRow, standIns := [], harness := (true, "12eb0a7425cc9a497af0c0d12f3108a1cb679fb9232ea7b50bbc6c7d79449ff3"), looks := true }, told := true, goes := false }
def FnCloneForSpecSharesConditionListToldSaid : Prop := Claim7.holds Tryf.pinned (.plain (OpenSpec.ofChange fnCloneForSpecSharesConditionListSpec)) fnCloneForSpecSharesConditionListCard
/-- ITS FALSE NEIGHBOUR. Refute it at one input. -/
def FnCloneForSpecSharesConditionListToldWrongFalsely : Prop := Claim7.holds Tryf.pinned (.plain (OpenSpec.ofChange fnCloneForSpecSharesConditionListWrong)) fnCloneForSpecSharesConditionListCard

/-- THE TOLD CARD OF 'n008_165.FnCloneForSpecFreshStructuralCopy'. -/
def fnCloneForSpecFreshStructuralCopyCard : Claim7 := { stood := { row := fnCloneForSpecFreshStructuralCopyRow, standIns := [], harness := (true, "12eb0a7425cc9a497af0c0d12f3108a1cb679fb9232ea7b50bbc6c7d79449ff3"), looks := true }, told := true, goes := false }
def FnCloneForSpecFreshStructuralCopyToldSaid : Prop := Claim7.holds Tryf.pinned (.plain (OpenSpec.ofChange fnCloneForSpecFreshStructuralCopySpec)) fnCloneForSpecFreshStructuralCopyCard
/-- ITS FALSE NEIGHBOUR. Refute it at one input. -/
def FnCloneForSpecFreshStructuralCopyToldWrongFalsely : Prop := Claim7.holds Tryf.pinned (.plain (OpenSpec.ofChange fnCloneForSpecFreshStructuralCopyWrong)) fnCloneForSpecFreshStructuralCopyCard
end Rows
end Go.Proofs.YtpcoeakcnmeblaaFmt
