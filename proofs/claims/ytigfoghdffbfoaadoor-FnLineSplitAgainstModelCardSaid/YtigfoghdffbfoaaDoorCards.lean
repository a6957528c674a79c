/-
  DERIVED. GIVEN WITH THE SEED: THE CARDS: each row of YtigfoghdffbfoaaDoorRows.lean that lists a variable, with what it lists TIED to the program's text (the seventh form; the later family's looks); each row that meets fmt, with fmt's text TOLD by the authors' own Lean function (tested against real Go, not proved from fmt's source: count such statements apart). THE CARD IS WHAT COUNTS. Prove the row's statement (the work); the ties are given (YtigfoghdffbfoaaDoorTie.lean); close each card by the builder's one call (the guide's Derived/Test/ToyasCard.lean, 'card_holds'). Laid BY PROGRAM, IN A SANDBOX (cutbox-door.mjs). By AI agents, Wed Nov 11 2026. No macro, syntax, notation, axiom, sorry.
-/
import Derived.Test.YtigfoghdffbfoaaDoorRows
import GoSem.ClaimSeven
namespace Go.Proofs.YtigfoghdffbfoaaDoor
namespace Rows

/-- THE TIED CARD OF 'n008_68.FnLineSplitCountAnyBytes'. -/
def fnLineSplitCountAnyBytesCard : Claim7 := { stood := { row := fnLineSplitCountAnyBytesRow, standIns := [], harness := (true, "8eb6bb411be2f79f995867699819d48a90cd5e042c8cfb7c760e1c324ad9f39d"), looks := false }, kinds := [], alts := [], laidByText := true, laidKinds := [.sentinel], laidTests := true, laidLooks := .later }
def FnLineSplitCountAnyBytesCardSaid : Prop := Claim7.holds Tryd.pinned (.plain (OpenSpec.ofChange fnLineSplitCountAnyBytesSpec)) fnLineSplitCountAnyBytesCard

/-- THE TIED CARD OF 'n008_68.FnLineSplitAgainstModel'. -/
def fnLineSplitAgainstModelCard : Claim7 := { stood := { row := fnLineSplitAgainstModelRow, standIns := [], harness := (true, "8eb6bb411be2f79f995867699819d48a90cd5e042c8cfb7c760e1c324ad9f39d"), looks := false }, kinds := [], alts := [], laidByText := true, laidKinds := [.sentinel], laidTests := true, laidLooks := .later }
def FnLineSplitAgainstModelCardSaid : Prop := Claim7.holds Tryd.pinned (.plain (OpenSpec.ofChange fnLineSplitAgainstModelSpec)) fnLineSplitAgainstModelCard

/-- THE SECOND FORM's CARD OF 'n008_68.FnLineSplitCountAnyBytes'. -/
def fnLineSplitCountAnyBytesUptoCard : Claim7 := { stood := { row := fnLineSplitCountAnyBytesUptoRow, standIns := [], harness := (true, "8eb6bb411be2f79f995867699819d48a90cd5e042c8cfb7c760e1c324ad9f39d"), looks := false }, kinds := [], alts := [], laidByText := true, laidKinds := [.sentinel], laidTests := true, laidLooks := .later }
def FnLineSplitCountAnyBytesUptoCardSaid : Prop := Claim7.holds Tryd.pinned (.plain (OpenSpec.upto fnLineSplitCountAnyBytesSpec)) fnLineSplitCountAnyBytesUptoCard

/-- THE SECOND FORM's CARD OF 'n008_68.FnLineSplitAgainstModel'. -/
def fnLineSplitAgainstModelUptoCard : Claim7 := { stood := { row := fnLineSplitAgainstModelUptoRow, standIns := [], harness := (true, "8eb6bb411be2f79f995867699819d48a90cd5e042c8cfb7c760e1c324ad9f39d"), looks := false }, kinds := [], alts := [], laidByText := true, laidKinds := [.sentinel], laidTests := true, laidLooks := .later }
def FnLineSplitAgainstModelUptoCardSaid : Prop := Claim7.holds Tryd.pinned (.plain (OpenSpec.upto fnLineSplitAgainstModelSpec)) fnLineSplitAgainstModelUptoCard
end Rows
end Go.Proofs.YtigfoghdffbfoaaDoor
