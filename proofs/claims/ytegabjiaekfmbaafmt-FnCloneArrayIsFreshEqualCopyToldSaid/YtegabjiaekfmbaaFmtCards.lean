/-
  DERIVED. GIVEN WITH THE SEED: THE CARDS: each row of YtegabjiaekfmbaaFmtRows.lean that lists a variable, with what it lists TIED to the program's text (the seventh form; the later family's looks); each row that meets fmt, with fmt's text TOLD by the authors' own Lean function (tested against real Go, not proved from fmt's source: count such statements apart). THE CARD IS WHAT COUNTS. Prove the row's statement (the work); the ties are given (YtegabjiaekfmbaaFmtTie.lean); close each card by the builder's one call (the guide's Derived/Test/ToyasCard.lean, 'card_holds'). Laid BY PROGRAM, IN A SANDBOX (cutbox-door.mjs). By AI agents, Wed Nov 11 2026. No macro, syntax, notation, axiom, sorry.
-/
import Derived.Test.YtegabjiaekfmbaaFmtRows
import GoSem.ClaimSeven
namespace Go.Proofs.YtegabjiaekfmbaaFmt
namespace Rows

/-- THE TOLD CARD OF 'n008_147.FnCloneArrayIsFreshEqualCopy'. -/
def fnCloneArrayIsFreshEqualCopyCard : Claim7 := { stood := { row := fnCloneArrayIsFreshEqualCopyRow, standIns := [], harness := (true, "cc020967e1d3e77ff4e9ccf7af48d7562cf4eca043a84c36c4c484fb033a5e47"), looks := true }, told := true, goes := false }
def FnCloneArrayIsFreshEqualCopyToldSaid : Prop := Claim7.holds Tryf.pinned (.plain (OpenSpec.ofChange fnCloneArrayIsFreshEqualCopySpec)) fnCloneArrayIsFreshEqualCopyCard
/-- ITS FALSE NEIGHBOUR. Refute it at one input. -/
def FnCloneArrayIsFreshEqualCopyToldWrongFalsely : Prop := Claim7.holds Tryf.pinned (.plain (OpenSpec.ofChange fnCloneArrayIsFreshEqualCopyWrong)) fnCloneArrayIsFreshEqualCopyCard

/-- THE TOLD CARD OF 'n008_19.FnCloneFieldSpec'. -/
def fnCloneFieldSpecCard : Claim7 := { stood := { row := fnCloneFieldSpecRow, standIns := [], harness := (true, "cc020967e1d3e77ff4e9ccf7af48d7562cf4eca043a84c36c4c484fb033a5e47"), looks := true }, told := true, goes := false }
def FnCloneFieldSpecToldSaid : Prop := Claim7.holds Tryf.pinned (.plain (OpenSpec.ofChange fnCloneFieldSpecSpec)) fnCloneFieldSpecCard
/-- ITS FALSE NEIGHBOUR. Refute it at one input. -/
def FnCloneFieldSpecToldWrongFalsely : Prop := Claim7.holds Tryf.pinned (.plain (OpenSpec.ofChange fnCloneFieldSpecWrong)) fnCloneFieldSpecCard

/-- THE TOLD CARD OF 'n008_19.FnCloneCommaSeparatedExprsSpec'. -/
def fnCloneCommaSeparatedExprsSpecCard : Claim7 := { stood := { row := fnCloneCommaSeparatedExprsSpecRow, standIns := [], harness := (true, "cc020967e1d3e77ff4e9ccf7af48d7562cf4eca043a84c36c4c484fb033a5e47"), looks := true }, told := true, goes := false }
def FnCloneCommaSeparatedExprsSpecToldSaid : Prop := Claim7.holds Tryf.pinned (.plain (OpenSpec.ofChange fnCloneCommaSeparatedExprsSpecSpec)) fnCloneCommaSeparatedExprsSpecCard
/-- ITS FALSE NEIGHBOUR. Refute it at one input. -/
def FnCloneCommaSeparatedExprsSpecToldWrongFalsely : Prop := Claim7.holds Tryf.pinned (.plain (OpenSpec.ofChange fnCloneCommaSeparatedExprsSpecWrong)) fnCloneCommaSeparatedExprsSpecCard

/-- THE TOLD CARD OF 'n008_19.FnCloneFieldDetached'. -/
def fnCloneFieldDetachedCard : Claim7 := { stood := { row := fnCloneFieldDetachedRow, standIns := [], harness := (true, "cc020967e1d3e77ff4e9ccf7af48d7562cf4eca043a84c36c4c484fb033a5e47"), looks := true }, told := true, goes := false }
def FnCloneFieldDetachedToldSaid : Prop := Claim7.holds Tryf.pinned (.plain (OpenSpec.ofChange fnCloneFieldDetachedSpec)) fnCloneFieldDetachedCard
/-- ITS FALSE NEIGHBOUR. Refute it at one input. -/
def FnCloneFieldDetachedToldWrongFalsely : Prop := Claim7.holds Tryf.pinned (.plain (OpenSpec.ofChange fnCloneFieldDetachedWrong)) fnCloneFieldDetachedCard

/-- THE TOLD CARD OF 'n008_147.FnCloneArraySourceWritesDoNotReachClone'. -/
def fnCloneArraySourceWritesDoNotReachCloneCard : Claim7 := { stood := { row := fnCloneArraySourceWritesDoNotReachCloneRow, standIns := [], harness := (true, "cc020967e1d3e77ff4e9ccf7af48d7562cf4eca043a84c36c4c484fb033a5e47"), looks := true }, told := true, goes := false }
def FnCloneArraySourceWritesDoNotReachCloneToldSaid : Prop := Claim7.holds Tryf.pinned (.plain (OpenSpec.ofChange fnCloneArraySourceWritesDoNotReachCloneSpec)) fnCloneArraySourceWritesDoNotReachCloneCard
/-- ITS FALSE NEIGHBOUR. Refute it at one input. -/
def FnCloneArraySourceWritesDoNotReachCloneToldWrongFalsely : Prop := Claim7.holds Tryf.pinned (.plain (OpenSpec.ofChange fnCloneArraySourceWritesDoNotReachCloneWrong)) fnCloneArraySourceWritesDoNotReachCloneCard
end Rows
end Go.Proofs.YtegabjiaekfmbaaFmt
