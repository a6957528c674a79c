/-
  DERIVED. GIVEN WITH THE SEED: THE CARDS: each row of YtjbjdoahpeghpabDoorRows.lean that lists a variable, with what it lists TIED to the program's text (the seventh form; the later family's looks); each row that meets fmt, with fmt's text TOLD by the authors' own Lean function (tested against real Go, not proved from fmt's source: count such statements apart). THE CARD IS WHAT COUNTS. Prove the row's statement (the work); the ties are given (YtjbjdoahpeghpabDoorTie.lean); close each card by the builder's one call (the guide's Derived/Test/ToyasCard.lean, 'card_holds'). Laid BY PROGRAM, IN A SANDBOX (cutbox-door.mjs). By AI agents, Wed Nov 11 2026. No macro, syntax, notation, axiom, sorry.
-/
import Derived.Test.YtjbjdoahpeghpabDoorRows
import GoSem.ClaimSeven
namespace Go.Proofs.YtjbjdoahpeghpabDoor
namespace Rows

/-- THE TIED CARD OF 'n008_40.FnBinaryOpPrecedenceRangeAndLayers'. -/
def fnBinaryOpPrecedenceRangeAndLayersCard : Claim7 := { stood := { row := fnBinaryOpPrecedenceRangeAndLayersRow, standIns := [], harness := (true, "bf0d6f828f925220e48291a9bd54c42acd64504f0138ae3efef1864bc3bd9447"), looks := true }, kinds := [], alts := [], laidByText := true, laidKinds := [.mapped], laidTests := true, laidLooks := .later }
def FnBinaryOpPrecedenceRangeAndLayersCardSaid : Prop := Claim7.holds Tryd.pinned (.plain (OpenSpec.ofChange fnBinaryOpPrecedenceRangeAndLayersSpec)) fnBinaryOpPrecedenceRangeAndLayersCard

/-- THE TIED CARD OF 'n008_40.FnExprPrecedenceAgreesAndOrders'. -/
def fnExprPrecedenceAgreesAndOrdersCard : Claim7 := { stood := { row := fnExprPrecedenceAgreesAndOrdersRow, standIns := [], harness := (true, "bf0d6f828f925220e48291a9bd54c42acd64504f0138ae3efef1864bc3bd9447"), looks := true }, kinds := [], alts := [], laidByText := true, laidKinds := [.mapped], laidTests := true, laidLooks := .later }
def FnExprPrecedenceAgreesAndOrdersCardSaid : Prop := Claim7.holds Tryd.pinned (.plain (OpenSpec.ofChange fnExprPrecedenceAgreesAndOrdersSpec)) fnExprPrecedenceAgreesAndOrdersCard

/-- THE SECOND FORM's CARD OF 'n008_40.FnBinaryOpPrecedenceRangeAndLayers'. -/
def fnBinaryOpPrecedenceRangeAndLayersUptoCard : Claim7 := { stood := { row := fnBinaryOpPrecedenceRangeAndLayersUptoRow, standIns := [], harness := (true, "bf0d6f828f925220e48291a9bd54c42acd64504f0138ae3efef1864bc3bd9447"), looks := true }, kinds := [], alts := [], laidByText := true, laidKinds := [.mapped], laidTests := true, laidLooks := .later }
def FnBinaryOpPrecedenceRangeAndLayersUptoCardSaid : Prop := Claim7.holds Tryd.pinned (.plain (OpenSpec.upto fnBinaryOpPrecedenceRangeAndLayersSpec)) fnBinaryOpPrecedenceRangeAndLayersUptoCard

/-- THE SECOND FORM's CARD OF 'n008_40.FnExprPrecedenceAgreesAndOrders'. -/
def fnExprPrecedenceAgreesAndOrdersUptoCard : Claim7 := { stood := { row := fnExprPrecedenceAgreesAndOrdersUptoRow, standIns := [], harness := (true, "bf0d6f828f925220e48291a9bd54c42acd64504f0138ae3efef1864bc3bd9447"), looks := true }, kinds := [], alts := [], laidByText := true, laidKinds := [.mapped], laidTests := true, laidLooks := .later }
def FnExprPrecedenceAgreesAndOrdersUptoCardSaid : Prop := Claim7.holds Tryd.pinned (.plain (OpenSpec.upto fnExprPrecedenceAgreesAndOrdersSpec)) fnExprPrecedenceAgreesAndOrdersUptoCard
end Rows
end Go.Proofs.YtjbjdoahpeghpabDoor
