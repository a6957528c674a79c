/-
  DERIVED. GIVEN WITH THE SEED: THE CARDS: each row of YtjbjdoahpeghpaaFmtRows.lean that lists a variable, with what it lists TIED to the program's text (the seventh form; the later family's looks); each row that meets fmt, with fmt's text TOLD by the authors' own Lean function (tested against real Go, not proved from fmt's source: count such statements apart). THE CARD IS WHAT COUNTS. Prove the row's statement (the work); the ties are given (YtjbjdoahpeghpaaFmtTie.lean); close each card by the builder's one call (the guide's Derived/Test/ToyasCard.lean, 'card_holds'). Laid BY PROGRAM, IN A SANDBOX (cutbox-door.mjs). By AI agents, Wed Nov 11 2026. No macro, syntax, notation, axiom, sorry.
-/
import Derived.Test.YtjbjdoahpeghpaaFmtRows
import GoSem.ClaimSeven
namespace Go.Proofs.YtjbjdoahpeghpaaFmt
namespace Rows

/-- THE TOLD AND TIED CARD OF 'n008_139.FnTokenKindStringTable'. -/
def fnTokenKindStringTableCard : Claim7 := { stood := { row := fnTokenKindStringTableRow, standIns := [], harness := (true, "4ea7057b1e09249c96717a108d5d47f6a77c84842d1e947716e52ed62db513b1"), looks := false }, told := true, laidByText := true, laidKinds := [.data], laidTests := true, laidLooks := .later, goes := false }
def FnTokenKindStringTableToldSaid : Prop := Claim7.holds Tryf.pinned (.plain (OpenSpec.ofChange fnTokenKindStringTableSpec)) fnTokenKindStringTableCard
/-- ITS FALSE NEIGHBOUR. Refute it at one input. -/
def FnTokenKindStringTableToldWrongFalsely : Prop := Claim7.holds Tryf.pinned (.plain (OpenSpec.ofChange fnTokenKindStringTableWrong)) fnTokenKindStringTableCard

/-- THE TOLD AND TIED CARD OF 'n008_165.FnUnaryOpStringTable'. -/
def fnUnaryOpStringTableCard : Claim7 := { stood := { row := fnUnaryOpStringTableRow, standIns := [], harness := (true, "4ea7057b1e09249c96717a108d5d47f6a77c84842d1e947716e52ed62db513b1"), looks := false }, told := true, laidByText := true, laidKinds := [.data], laidTests := true, laidLooks := .later, goes := false }
def FnUnaryOpStringTableToldSaid : Prop := Claim7.holds Tryf.pinned (.plain (OpenSpec.ofChange fnUnaryOpStringTableSpec)) fnUnaryOpStringTableCard
/-- ITS FALSE NEIGHBOUR. Refute it at one input. -/
def FnUnaryOpStringTableToldWrongFalsely : Prop := Claim7.holds Tryf.pinned (.plain (OpenSpec.ofChange fnUnaryOpStringTableWrong)) fnUnaryOpStringTableCard

/-- THE TOLD AND TIED CARD OF 'n008_31.FnBinaryOpStringTable'. -/
def fnBinaryOpStringTableCard : Claim7 := { stood := { row := fnBinaryOpStringTableRow, standIns := [], harness := (true, "4ea7057b1e09249c96717a108d5d47f6a77c84842d1e947716e52ed62db513b1"), looks := false }, told := true, laidByText := true, laidKinds := [.data], laidTests := true, laidLooks := .later, goes := false }
def FnBinaryOpStringTableToldSaid : Prop := Claim7.holds Tryf.pinned (.plain (OpenSpec.ofChange fnBinaryOpStringTableSpec)) fnBinaryOpStringTableCard
/-- ITS FALSE NEIGHBOUR. Refute it at one input. -/
def FnBinaryOpStringTableToldWrongFalsely : Prop := Claim7.holds Tryf.pinned (.plain (OpenSpec.ofChange fnBinaryOpStringTableWrong)) fnBinaryOpStringTableCard

/-- THE TOLD AND TIED CARD OF 'n008_139.FnTokenKindStringKeywordRoundTrip'. -/
def fnTokenKindStringKeywordRoundTripCard : Claim7 := { stood := { row := fnTokenKindStringKeywordRoundTripRow, standIns := [], harness := (true, "4ea7057b1e09249c96717a108d5d47f6a77c84842d1e947716e52ed62db513b1"), looks := false }, told := true, laidByText := true, laidKinds := [.data], laidTests := true, laidLooks := .later, goes := false }
def FnTokenKindStringKeywordRoundTripToldSaid : Prop := Claim7.holds Tryf.pinned (.plain (OpenSpec.ofChange fnTokenKindStringKeywordRoundTripSpec)) fnTokenKindStringKeywordRoundTripCard
/-- ITS FALSE NEIGHBOUR. Refute it at one input. -/
def FnTokenKindStringKeywordRoundTripToldWrongFalsely : Prop := Claim7.holds Tryf.pinned (.plain (OpenSpec.ofChange fnTokenKindStringKeywordRoundTripWrong)) fnTokenKindStringKeywordRoundTripCard

/-- THE TOLD AND TIED CARD OF 'n008_165.FnUnaryOpStringInjectiveOneByte'. -/
def fnUnaryOpStringInjectiveOneByteCard : Claim7 := { stood := { row := fnUnaryOpStringInjectiveOneByteRow, standIns := [], harness := (true, "4ea7057b1e09249c96717a108d5d47f6a77c84842d1e947716e52ed62db513b1"), looks := false }, told := true, laidByText := true, laidKinds := [.data], laidTests := true, laidLooks := .later, goes := false }
def FnUnaryOpStringInjectiveOneByteToldSaid : Prop := Claim7.holds Tryf.pinned (.plain (OpenSpec.ofChange fnUnaryOpStringInjectiveOneByteSpec)) fnUnaryOpStringInjectiveOneByteCard
/-- ITS FALSE NEIGHBOUR. Refute it at one input. -/
def FnUnaryOpStringInjectiveOneByteToldWrongFalsely : Prop := Claim7.holds Tryf.pinned (.plain (OpenSpec.ofChange fnUnaryOpStringInjectiveOneByteWrong)) fnUnaryOpStringInjectiveOneByteCard

/-- THE TOLD AND TIED CARD OF 'n008_31.FnBinaryOpStringInjective'. -/
def fnBinaryOpStringInjectiveCard : Claim7 := { stood := { row := fnBinaryOpStringInjectiveRow, standIns := [], harness := (true, "4ea7057b1e09249c96717a108d5d47f6a77c84842d1e947716e52ed62db513b1"), looks := false }, told := true, laidByText := true, laidKinds := [.data], laidTests := true, laidLooks := .later, goes := false }
def FnBinaryOpStringInjectiveToldSaid : Prop := Claim7.holds Tryf.pinned (.plain (OpenSpec.ofChange fnBinaryOpStringInjectiveSpec)) fnBinaryOpStringInjectiveCard
/-- ITS FALSE NEIGHBOUR. Refute it at one input. -/
def FnBinaryOpStringInjectiveToldWrongFalsely : Prop := Claim7.holds Tryf.pinned (.plain (OpenSpec.ofChange fnBinaryOpStringInjectiveWrong)) fnBinaryOpStringInjectiveCard
end Rows
end Go.Proofs.YtjbjdoahpeghpaaFmt
