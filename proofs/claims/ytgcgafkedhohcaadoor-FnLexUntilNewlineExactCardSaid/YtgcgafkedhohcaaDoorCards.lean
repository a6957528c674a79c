/-
  DERIVED. GIVEN WITH THE SEED: THE CARDS: each row of YtgcgafkedhohcaaDoorRows.lean that lists a variable, with what it lists TIED to the program's text (the seventh form; the later family's looks); each row that meets fmt, with fmt's text TOLD by the authors' own Lean function (tested against real Go, not proved from fmt's source: count such statements apart). THE CARD IS WHAT COUNTS. Prove the row's statement (the work); the ties are given (YtgcgafkedhohcaaDoorTie.lean); close each card by the builder's one call (the guide's Derived/Test/ToyasCard.lean, 'card_holds'). Laid BY PROGRAM, IN A SANDBOX (cutbox-door.mjs). By AI agents, Wed Nov 11 2026. No macro, syntax, notation, axiom, sorry.
-/
import Derived.Test.YtgcgafkedhohcaaDoorRows
import GoSem.ClaimSeven
namespace Go.Proofs.YtgcgafkedhohcaaDoor
namespace Rows

/-- THE TIED CARD OF 'n008_164.FnLexIdentifierAgreesWithIsValidIdentifier'. -/
def fnLexIdentifierAgreesWithIsValidIdentifierCard : Claim7 := { stood := { row := fnLexIdentifierAgreesWithIsValidIdentifierRow, standIns := [], harness := (true, "0f8b240cef28eca66b6e560a36786212e65db407e719d8882599c5ddd2663dfb"), looks := false }, kinds := [], alts := [], laidByText := true, laidKinds := [.data, .sentinel, .pinned], laidTests := true, laidLooks := .later }
def FnLexIdentifierAgreesWithIsValidIdentifierCardSaid : Prop := Claim7.holds Tryd.pinned (.plain (OpenSpec.ofChange fnLexIdentifierAgreesWithIsValidIdentifierSpec)) fnLexIdentifierAgreesWithIsValidIdentifierCard

/-- THE TIED CARD OF 'n008_151.FnResetTokenStartLocatesCursor'. -/
def fnResetTokenStartLocatesCursorCard : Claim7 := { stood := { row := fnResetTokenStartLocatesCursorRow, standIns := [], harness := (true, "0f8b240cef28eca66b6e560a36786212e65db407e719d8882599c5ddd2663dfb"), looks := false }, kinds := [], alts := [], laidByText := true, laidKinds := [.data, .sentinel, .pinned], laidTests := true, laidLooks := .later }
def FnResetTokenStartLocatesCursorCardSaid : Prop := Claim7.holds Tryd.pinned (.plain (OpenSpec.ofChange fnResetTokenStartLocatesCursorSpec)) fnResetTokenStartLocatesCursorCard

/-- THE TIED CARD OF 'n008_134.FnLexUntilNewlineExact'. -/
def fnLexUntilNewlineExactCard : Claim7 := { stood := { row := fnLexUntilNewlineExactRow, standIns := [], harness := (true, "0f8b240cef28eca66b6e560a36786212e65db407e719d8882599c5ddd2663dfb"), looks := false }, kinds := [], alts := [], laidByText := true, laidKinds := [.data, .sentinel, .pinned], laidTests := true, laidLooks := .later }
def FnLexUntilNewlineExactCardSaid : Prop := Claim7.holds Tryd.pinned (.plain (OpenSpec.ofChange fnLexUntilNewlineExactSpec)) fnLexUntilNewlineExactCard

/-- THE TIED CARD OF 'n008_151.FnEmitTokenExact'. -/
def fnEmitTokenExactCard : Claim7 := { stood := { row := fnEmitTokenExactRow, standIns := [], harness := (true, "0f8b240cef28eca66b6e560a36786212e65db407e719d8882599c5ddd2663dfb"), looks := false }, kinds := [], alts := [], laidByText := true, laidKinds := [.data, .sentinel, .pinned], laidTests := true, laidLooks := .later }
def FnEmitTokenExactCardSaid : Prop := Claim7.holds Tryd.pinned (.plain (OpenSpec.ofChange fnEmitTokenExactSpec)) fnEmitTokenExactCard

/-- THE TIED CARD OF 'n008_151.FnEmitTokenTilesInput'. -/
def fnEmitTokenTilesInputCard : Claim7 := { stood := { row := fnEmitTokenTilesInputRow, standIns := [], harness := (true, "0f8b240cef28eca66b6e560a36786212e65db407e719d8882599c5ddd2663dfb"), looks := false }, kinds := [], alts := [], laidByText := true, laidKinds := [.data, .sentinel, .pinned], laidTests := true, laidLooks := .later }
def FnEmitTokenTilesInputCardSaid : Prop := Claim7.holds Tryd.pinned (.plain (OpenSpec.ofChange fnEmitTokenTilesInputSpec)) fnEmitTokenTilesInputCard

/-- THE SECOND FORM's CARD OF 'n008_164.FnLexIdentifierAgreesWithIsValidIdentifier'. -/
def fnLexIdentifierAgreesWithIsValidIdentifierUptoCard : Claim7 := { stood := { row := fnLexIdentifierAgreesWithIsValidIdentifierUptoRow, standIns := [], harness := (true, "0f8b240cef28eca66b6e560a36786212e65db407e719d8882599c5ddd2663dfb"), looks := false }, kinds := [], alts := [], laidByText := true, laidKinds := [.data, .sentinel, .pinned], laidTests := true, laidLooks := .later }
def FnLexIdentifierAgreesWithIsValidIdentifierUptoCardSaid : Prop := Claim7.holds Tryd.pinned (.plain (OpenSpec.upto fnLexIdentifierAgreesWithIsValidIdentifierSpec)) fnLexIdentifierAgreesWithIsValidIdentifierUptoCard

/-- THE SECOND FORM's CARD OF 'n008_151.FnResetTokenStartLocatesCursor'. -/
def fnResetTokenStartLocatesCursorUptoCard : Claim7 := { stood := { row := fnResetTokenStartLocatesCursorUptoRow, standIns := [], harness := (true, "0f8b240cef28eca66b6e560a36786212e65db407e719d8882599c5ddd2663dfb"), looks := false }, kinds := [], alts := [], laidByText := true, laidKinds := [.data, .sentinel, .pinned], laidTests := true, laidLooks := .later }
def FnResetTokenStartLocatesCursorUptoCardSaid : Prop := Claim7.holds Tryd.pinned (.plain (OpenSpec.upto fnResetTokenStartLocatesCursorSpec)) fnResetTokenStartLocatesCursorUptoCard

/-- THE SECOND FORM's CARD OF 'n008_134.FnLexUntilNewlineExact'. -/
def fnLexUntilNewlineExactUptoCard : Claim7 := { stood := { row := fnLexUntilNewlineExactUptoRow, standIns := [], harness := (true, "0f8b240cef28eca66b6e560a36786212e65db407e719d8882599c5ddd2663dfb"), looks := false }, kinds := [], alts := [], laidByText := true, laidKinds := [.data, .sentinel, .pinned], laidTests := true, laidLooks := .later }
def FnLexUntilNewlineExactUptoCardSaid : Prop := Claim7.holds Tryd.pinned (.plain (OpenSpec.upto fnLexUntilNewlineExactSpec)) fnLexUntilNewlineExactUptoCard

/-- THE SECOND FORM's CARD OF 'n008_151.FnEmitTokenExact'. -/
def fnEmitTokenExactUptoCard : Claim7 := { stood := { row := fnEmitTokenExactUptoRow, standIns := [], harness := (true, "0f8b240cef28eca66b6e560a36786212e65db407e719d8882599c5ddd2663dfb"), looks := false }, kinds := [], alts := [], laidByText := true, laidKinds := [.data, .sentinel, .pinned], laidTests := true, laidLooks := .later }
def FnEmitTokenExactUptoCardSaid : Prop := Claim7.holds Tryd.pinned (.plain (OpenSpec.upto fnEmitTokenExactSpec)) fnEmitTokenExactUptoCard

/-- THE SECOND FORM's CARD OF 'n008_151.FnEmitTokenTilesInput'. -/
def fnEmitTokenTilesInputUptoCard : Claim7 := { stood := { row := fnEmitTokenTilesInputUptoRow, standIns := [], harness := (true, "0f8b240cef28eca66b6e560a36786212e65db407e719d8882599c5ddd2663dfb"), looks := false }, kinds := [], alts := [], laidByText := true, laidKinds := [.data, .sentinel, .pinned], laidTests := true, laidLooks := .later }
def FnEmitTokenTilesInputUptoCardSaid : Prop := Claim7.holds Tryd.pinned (.plain (OpenSpec.upto fnEmitTokenTilesInputSpec)) fnEmitTokenTilesInputUptoCard
end Rows
end Go.Proofs.YtgcgafkedhohcaaDoor
