/-
  DERIVED. GIVEN WITH THE SEED: THE CARDS: each row of YtmieljdnfjpheaaDoorRows.lean that lists a variable, with what it lists TIED to the program's text (the seventh form; the later family's looks); each row that meets fmt, with fmt's text TOLD by the authors' own Lean function (tested against real Go, not proved from fmt's source: count such statements apart). THE CARD IS WHAT COUNTS. Prove the row's statement (the work); the ties are given (YtmieljdnfjpheaaDoorTie.lean); close each card by the builder's one call (the guide's Derived/Test/ToyasCard.lean, 'card_holds'). Laid BY PROGRAM, IN A SANDBOX (cutbox-door.mjs). By AI agents, Wed Nov 11 2026. No macro, syntax, notation, axiom, sorry.
-/
import Derived.Test.YtmieljdnfjpheaaDoorRows
import GoSem.ClaimSeven
namespace Go.Proofs.YtmieljdnfjpheaaDoor
namespace Rows

/-- THE TIED CARD OF 'n008_68.FnLineSplitCountAnyBytes'. -/
def fnLineSplitCountAnyBytesCard : Claim7 := { stood := { row := fnLineSplitCountAnyBytesRow, standIns := [], harness := (true, "6c0ee3a74d5c27cb87cd3aff33e0c549f003521824c0f77ce0ae94a82d4f975f"), looks := false }, kinds := [], alts := [], laidByText := true, laidKinds := [.sentinel], laidTests := true, laidLooks := .later }
def FnLineSplitCountAnyBytesCardSaid : Prop := Claim7.holds Tryd.pinned (.plain (OpenSpec.ofChange fnLineSplitCountAnyBytesSpec)) fnLineSplitCountAnyBytesCard

/-- THE TIED CARD OF 'n008_132.FnGetSnippetIsTextBetweenPositions'. -/
def fnGetSnippetIsTextBetweenPositionsCard : Claim7 := { stood := { row := fnGetSnippetIsTextBetweenPositionsRow, standIns := [], harness := (true, "6c0ee3a74d5c27cb87cd3aff33e0c549f003521824c0f77ce0ae94a82d4f975f"), looks := false }, kinds := [], alts := [], laidByText := true, laidKinds := [.sentinel], laidTests := true, laidLooks := .later }
def FnGetSnippetIsTextBetweenPositionsCardSaid : Prop := Claim7.holds Tryd.pinned (.plain (OpenSpec.ofChange fnGetSnippetIsTextBetweenPositionsSpec)) fnGetSnippetIsTextBetweenPositionsCard

/-- THE TIED CARD OF 'n008_132.FnBuildSourceLineCountEveryString'. -/
def fnBuildSourceLineCountEveryStringCard : Claim7 := { stood := { row := fnBuildSourceLineCountEveryStringRow, standIns := [], harness := (true, "6c0ee3a74d5c27cb87cd3aff33e0c549f003521824c0f77ce0ae94a82d4f975f"), looks := false }, kinds := [], alts := [], laidByText := true, laidKinds := [.sentinel], laidTests := true, laidLooks := .later }
def FnBuildSourceLineCountEveryStringCardSaid : Prop := Claim7.holds Tryd.pinned (.plain (OpenSpec.ofChange fnBuildSourceLineCountEveryStringSpec)) fnBuildSourceLineCountEveryStringCard

/-- THE TIED CARD OF 'n008_132.FnGetSnippetSplitsAtMidpoint'. -/
def fnGetSnippetSplitsAtMidpointCard : Claim7 := { stood := { row := fnGetSnippetSplitsAtMidpointRow, standIns := [], harness := (true, "6c0ee3a74d5c27cb87cd3aff33e0c549f003521824c0f77ce0ae94a82d4f975f"), looks := false }, kinds := [], alts := [], laidByText := true, laidKinds := [.sentinel], laidTests := true, laidLooks := .later }
def FnGetSnippetSplitsAtMidpointCardSaid : Prop := Claim7.holds Tryd.pinned (.plain (OpenSpec.ofChange fnGetSnippetSplitsAtMidpointSpec)) fnGetSnippetSplitsAtMidpointCard

/-- THE TIED CARD OF 'n008_68.FnLineSplitAgainstModel'. -/
def fnLineSplitAgainstModelCard : Claim7 := { stood := { row := fnLineSplitAgainstModelRow, standIns := [], harness := (true, "6c0ee3a74d5c27cb87cd3aff33e0c549f003521824c0f77ce0ae94a82d4f975f"), looks := false }, kinds := [], alts := [], laidByText := true, laidKinds := [.sentinel], laidTests := true, laidLooks := .later }
def FnLineSplitAgainstModelCardSaid : Prop := Claim7.holds Tryd.pinned (.plain (OpenSpec.ofChange fnLineSplitAgainstModelSpec)) fnLineSplitAgainstModelCard

/-- THE TIED CARD OF 'n008_132.FnBuildSourceSplitsAtNewlines'. -/
def fnBuildSourceSplitsAtNewlinesCard : Claim7 := { stood := { row := fnBuildSourceSplitsAtNewlinesRow, standIns := [], harness := (true, "6c0ee3a74d5c27cb87cd3aff33e0c549f003521824c0f77ce0ae94a82d4f975f"), looks := false }, kinds := [], alts := [], laidByText := true, laidKinds := [.sentinel], laidTests := true, laidLooks := .later }
def FnBuildSourceSplitsAtNewlinesCardSaid : Prop := Claim7.holds Tryd.pinned (.plain (OpenSpec.ofChange fnBuildSourceSplitsAtNewlinesSpec)) fnBuildSourceSplitsAtNewlinesCard

/-- THE SECOND FORM's CARD OF 'n008_68.FnLineSplitCountAnyBytes'. -/
def fnLineSplitCountAnyBytesUptoCard : Claim7 := { stood := { row := fnLineSplitCountAnyBytesUptoRow, standIns := [], harness := (true, "6c0ee3a74d5c27cb87cd3aff33e0c549f003521824c0f77ce0ae94a82d4f975f"), looks := false }, kinds := [], alts := [], laidByText := true, laidKinds := [.sentinel], laidTests := true, laidLooks := .later }
def FnLineSplitCountAnyBytesUptoCardSaid : Prop := Claim7.holds Tryd.pinned (.plain (OpenSpec.upto fnLineSplitCountAnyBytesSpec)) fnLineSplitCountAnyBytesUptoCard

/-- THE SECOND FORM's CARD OF 'n008_132.FnGetSnippetIsTextBetweenPositions'. -/
def fnGetSnippetIsTextBetweenPositionsUptoCard : Claim7 := { stood := { row := fnGetSnippetIsTextBetweenPositionsUptoRow, standIns := [], harness := (true, "6c0ee3a74d5c27cb87cd3aff33e0c549f003521824c0f77ce0ae94a82d4f975f"), looks := false }, kinds := [], alts := [], laidByText := true, laidKinds := [.sentinel], laidTests := true, laidLooks := .later }
def FnGetSnippetIsTextBetweenPositionsUptoCardSaid : Prop := Claim7.holds Tryd.pinned (.plain (OpenSpec.upto fnGetSnippetIsTextBetweenPositionsSpec)) fnGetSnippetIsTextBetweenPositionsUptoCard

/-- THE SECOND FORM's CARD OF 'n008_132.FnBuildSourceLineCountEveryString'. -/
def fnBuildSourceLineCountEveryStringUptoCard : Claim7 := { stood := { row := fnBuildSourceLineCountEveryStringUptoRow, standIns := [], harness := (true, "6c0ee3a74d5c27cb87cd3aff33e0c549f003521824c0f77ce0ae94a82d4f975f"), looks := false }, kinds := [], alts := [], laidByText := true, laidKinds := [.sentinel], laidTests := true, laidLooks := .later }
def FnBuildSourceLineCountEveryStringUptoCardSaid : Prop := Claim7.holds Tryd.pinned (.plain (OpenSpec.upto fnBuildSourceLineCountEveryStringSpec)) fnBuildSourceLineCountEveryStringUptoCard

/-- THE SECOND FORM's CARD OF 'n008_132.FnGetSnippetSplitsAtMidpoint'. -/
def fnGetSnippetSplitsAtMidpointUptoCard : Claim7 := { stood := { row := fnGetSnippetSplitsAtMidpointUptoRow, standIns := [], harness := (true, "6c0ee3a74d5c27cb87cd3aff33e0c549f003521824c0f77ce0ae94a82d4f975f"), looks := false }, kinds := [], alts := [], laidByText := true, laidKinds := [.sentinel], laidTests := true, laidLooks := .later }
def FnGetSnippetSplitsAtMidpointUptoCardSaid : Prop := Claim7.holds Tryd.pinned (.plain (OpenSpec.upto fnGetSnippetSplitsAtMidpointSpec)) fnGetSnippetSplitsAtMidpointUptoCard

/-- THE SECOND FORM's CARD OF 'n008_68.FnLineSplitAgainstModel'. -/
def fnLineSplitAgainstModelUptoCard : Claim7 := { stood := { row := fnLineSplitAgainstModelUptoRow, standIns := [], harness := (true, "6c0ee3a74d5c27cb87cd3aff33e0c549f003521824c0f77ce0ae94a82d4f975f"), looks := false }, kinds := [], alts := [], laidByText := true, laidKinds := [.sentinel], laidTests := true, laidLooks := .later }
def FnLineSplitAgainstModelUptoCardSaid : Prop := Claim7.holds Tryd.pinned (.plain (OpenSpec.upto fnLineSplitAgainstModelSpec)) fnLineSplitAgainstModelUptoCard

/-- THE SECOND FORM's CARD OF 'n008_132.FnBuildSourceSplitsAtNewlines'. -/
def fnBuildSourceSplitsAtNewlinesUptoCard : Claim7 := { stood := { row := fnBuildSourceSplitsAtNewlinesUptoRow, standIns := [], harness := (true, "6c0ee3a74d5c27cb87cd3aff33e0c549f003521824c0f77ce0ae94a82d4f975f"), looks := false }, kinds := [], alts := [], laidByText := true, laidKinds := [.sentinel], laidTests := true, laidLooks := .later }
def FnBuildSourceSplitsAtNewlinesUptoCardSaid : Prop := Claim7.holds Tryd.pinned (.plain (OpenSpec.upto fnBuildSourceSplitsAtNewlinesSpec)) fnBuildSourceSplitsAtNewlinesUptoCard
end Rows
end Go.Proofs.YtmieljdnfjpheaaDoor
