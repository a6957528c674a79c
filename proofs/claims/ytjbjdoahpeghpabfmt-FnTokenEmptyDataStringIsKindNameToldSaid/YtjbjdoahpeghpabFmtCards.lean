/-
  DERIVED. GIVEN WITH THE SEED: THE CARDS: each row of YtjbjdoahpeghpabFmtRows.lean that lists a variable, with what it lists TIED to the program's text (the seventh form; the later family's looks); each row that meets fmt, with fmt's text TOLD by the authors' own Lean function (tested against real Go, not proved from fmt's source: count such statements apart). THE CARD IS WHAT COUNTS. Prove the row's statement (the work); the ties are given (YtjbjdoahpeghpabFmtTie.lean); close each card by the builder's one call (the guide's Derived/Test/ToyasCard.lean, 'card_holds'). Laid BY PROGRAM, IN A SANDBOX (cutbox-door.mjs). By AI agents, Wed Nov 11 2026. No macro, syntax, notation, axiom, sorry.
-/
import Derived.Test.YtjbjdoahpeghpabFmtRows
import GoSem.ClaimSeven
namespace Go.Proofs.YtjbjdoahpeghpabFmt
namespace Rows

/-- THE TOLD AND TIED CARD OF 'n008_139.FnTokenEmptyDataStringIsKindName'. -/
def fnTokenEmptyDataStringIsKindNameCard : Claim7 := { stood := { row := fnTokenEmptyDataStringIsKindNameRow, standIns := [], harness := (true, "7fedaa35a4411bf988ccc8499325953a7f2c02fb7be84b2f879b6af34e21e2a5"), looks := false }, told := true, laidByText := true, laidKinds := [.data, .mapped], laidTests := true, laidLooks := .later, goes := false }
def FnTokenEmptyDataStringIsKindNameToldSaid : Prop := Claim7.holds Tryf.pinned (.plain (OpenSpec.ofChange fnTokenEmptyDataStringIsKindNameSpec)) fnTokenEmptyDataStringIsKindNameCard
/-- ITS FALSE NEIGHBOUR. Refute it at one input. -/
def FnTokenEmptyDataStringIsKindNameToldWrongFalsely : Prop := Claim7.holds Tryf.pinned (.plain (OpenSpec.ofChange fnTokenEmptyDataStringIsKindNameWrong)) fnTokenEmptyDataStringIsKindNameCard

/-- THE TOLD CARD OF 'n008_28.FnUnexpectedErrorsAgreeOnLocation'. -/
def fnUnexpectedErrorsAgreeOnLocationCard : Claim7 := { stood := { row := fnUnexpectedErrorsAgreeOnLocationRow, standIns := [], harness := (true, "7fedaa35a4411bf988ccc8499325953a7f2c02fb7be84b2f879b6af34e21e2a5"), looks := false }, told := true, goes := false }
def FnUnexpectedErrorsAgreeOnLocationToldSaid : Prop := Claim7.holds Tryf.pinned (.plain (OpenSpec.ofChange fnUnexpectedErrorsAgreeOnLocationSpec)) fnUnexpectedErrorsAgreeOnLocationCard
/-- ITS FALSE NEIGHBOUR. Refute it at one input. -/
def FnUnexpectedErrorsAgreeOnLocationToldWrongFalsely : Prop := Claim7.holds Tryf.pinned (.plain (OpenSpec.ofChange fnUnexpectedErrorsAgreeOnLocationWrong)) fnUnexpectedErrorsAgreeOnLocationCard
end Rows
end Go.Proofs.YtjbjdoahpeghpabFmt
