/-
  No cell of these rows narrows 'for every input' (looked for: loops, veiled, ifaces, maps, wideKeys, modest, calm, conditions, laid).
  DERIVED. THE GIVEN ROWS OF THIS SEAT. 5 by the template 'for every input the law returns true; each argument reads behind the call as it read before'; 0 by the template 'total and deterministic' (their statements: YtgmmbimbbkbjfaaFmtTotals.lean).
  GIVEN WITH THE SEED: the statements are not yours to turn. If you find one false, say at which input.
  Laid BY PROGRAM, IN A SANDBOX (cutbox-rows.mjs): the forced cells as the released guide's own fill.sh prints them over the translation d958dcd055cb7274… (all of the seat's roots in one cut). By AI agents, Wed Nov 11 2026. No macro, syntax, notation, axiom, sorry.
-/
import Derived.Test.YtgmmbimbbkbjfaaFmtChecked
import GoSem.Claim
import GoSem.ClaimJoined
import GoSem.ClaimMapViews
import Derived.JoinedTies
import Derived.KernelRfl
namespace Go.Proofs.YtgmmbimbbkbjfaaFmt
/- THE CELL 'sum', in the pinned program and in every row, IS THE sha256 OF THE DUMP (.gsa) THAT YtgmmbimbbkbjfaaFmtProg.lean LOADS. Nothing in Lean hashes anything: it is a label: what it is worth is what the hold of that sum in a sandbox is worth. -/
noncomputable def Tryf.pinned : Pinned := { name := "ytgmmbimbbkbjfaafmt", sum := "d958dcd055cb7274e532143219b00f96d829a10a0b80b3efdb391a57b9aba896", checked := Tryf.checked }
namespace Rows
def none {H : Type} : Left H := { results := [], args := [] }

/-- 'n008_19.FnCloneDesugaredFieldSpec': WHATEVER THE INPUT: true; the input reads as it did. -/
def fnCloneDesugaredFieldSpecSpec : ChangeSpec := { name := "fnCloneDesugaredFieldSpec", fn := fun _ => fun
  | [d1, d2, d3, d4, d5, d6, d7, d8, d9] => { results := [.lit (.bool true)], args := [d1, d2, d3, d4, d5, d6, d7, d8, d9] }
  | _ => none }
def fnCloneDesugaredFieldSpecRow : OpenClaim := { program := "ytgmmbimbbkbjfaafmt", sum := "d958dcd055cb7274e532143219b00f96d829a10a0b80b3efdb391a57b9aba896", func := "github.com/google/go-jsonnet/n008_19.FnCloneDesugaredFieldSpec", spec := "fnCloneDesugaredFieldSpec", stops := ["fmt.Sprintf"], inPlace := ["fmt.Sprintf"], unfollowed := true, recurses := true, apart := false }
/-- NO THEOREM (fmt's text is open here; it may be false): for the released tool's asking of the row's closed facts alone. THE STATEMENT IS 'FnCloneDesugaredFieldSpecToldSaid' (YtgmmbimbbkbjfaaFmtCards.lean). -/
def FnCloneDesugaredFieldSpecFormAsk : Prop := fnCloneDesugaredFieldSpecRow.holds Tryf.pinned (OpenSpec.ofChange fnCloneDesugaredFieldSpecSpec)

/-- ITS FALSE NEIGHBOUR: 'it returns false'. Refute it at one input. -/
def fnCloneDesugaredFieldSpecWrong : ChangeSpec := { name := "fnCloneDesugaredFieldSpec", fn := fun _ => fun
  | [d1, d2, d3, d4, d5, d6, d7, d8, d9] => { results := [.lit (.bool false)], args := [d1, d2, d3, d4, d5, d6, d7, d8, d9] }
  | _ => none }
def FnCloneDesugaredFieldSpecWrongFormAsk : Prop := fnCloneDesugaredFieldSpecRow.holds Tryf.pinned (OpenSpec.ofChange fnCloneDesugaredFieldSpecWrong)

/-- 'n008_19.FnCloneCommaSeparatedExprsDetached': WHATEVER THE INPUT: true; the input reads as it did. -/
def fnCloneCommaSeparatedExprsDetachedSpec : ChangeSpec := { name := "fnCloneCommaSeparatedExprsDetached", fn := fun _ => fun
  | [d1, d2] => { results := [.lit (.bool true)], args := [d1, d2] }
  | _ => none }
def fnCloneCommaSeparatedExprsDetachedRow : OpenClaim := { program := "ytgmmbimbbkbjfaafmt", sum := "d958dcd055cb7274e532143219b00f96d829a10a0b80b3efdb391a57b9aba896", func := "github.com/google/go-jsonnet/n008_19.FnCloneCommaSeparatedExprsDetached", spec := "fnCloneCommaSeparatedExprsDetached", stops := ["fmt.Sprintf"], inPlace := ["fmt.Sprintf"], unfollowed := true, recurses := true, apart := false }
/-- NO THEOREM (fmt's text is open here; it may be false): for the released tool's asking of the row's closed facts alone. THE STATEMENT IS 'FnCloneCommaSeparatedExprsDetachedToldSaid' (YtgmmbimbbkbjfaaFmtCards.lean). -/
def FnCloneCommaSeparatedExprsDetachedFormAsk : Prop := fnCloneCommaSeparatedExprsDetachedRow.holds Tryf.pinned (OpenSpec.ofChange fnCloneCommaSeparatedExprsDetachedSpec)

/-- ITS FALSE NEIGHBOUR: 'it returns false'. Refute it at one input. -/
def fnCloneCommaSeparatedExprsDetachedWrong : ChangeSpec := { name := "fnCloneCommaSeparatedExprsDetached", fn := fun _ => fun
  | [d1, d2] => { results := [.lit (.bool false)], args := [d1, d2] }
  | _ => none }
def FnCloneCommaSeparatedExprsDetachedWrongFormAsk : Prop := fnCloneCommaSeparatedExprsDetachedRow.holds Tryf.pinned (OpenSpec.ofChange fnCloneCommaSeparatedExprsDetachedWrong)

/-- 'n008_25.FnFreeVariablesCloneIndependent': WHATEVER THE INPUT: true; the input reads as it did. -/
def fnFreeVariablesCloneIndependentSpec : ChangeSpec := { name := "fnFreeVariablesCloneIndependent", fn := fun _ => fun
  | [d1, d2, d3, d4] => { results := [.lit (.bool true)], args := [d1, d2, d3, d4] }
  | _ => none }
def fnFreeVariablesCloneIndependentRow : OpenClaim := { program := "ytgmmbimbbkbjfaafmt", sum := "d958dcd055cb7274e532143219b00f96d829a10a0b80b3efdb391a57b9aba896", func := "github.com/google/go-jsonnet/n008_25.FnFreeVariablesCloneIndependent", spec := "fnFreeVariablesCloneIndependent", stops := ["fmt.Sprintf"], inPlace := ["fmt.Sprintf"], unfollowed := true, recurses := true, apart := false }
/-- NO THEOREM (fmt's text is open here; it may be false): for the released tool's asking of the row's closed facts alone. THE STATEMENT IS 'FnFreeVariablesCloneIndependentToldSaid' (YtgmmbimbbkbjfaaFmtCards.lean). -/
def FnFreeVariablesCloneIndependentFormAsk : Prop := fnFreeVariablesCloneIndependentRow.holds Tryf.pinned (OpenSpec.ofChange fnFreeVariablesCloneIndependentSpec)

/-- ITS FALSE NEIGHBOUR: 'it returns false'. Refute it at one input. -/
def fnFreeVariablesCloneIndependentWrong : ChangeSpec := { name := "fnFreeVariablesCloneIndependent", fn := fun _ => fun
  | [d1, d2, d3, d4] => { results := [.lit (.bool false)], args := [d1, d2, d3, d4] }
  | _ => none }
def FnFreeVariablesCloneIndependentWrongFormAsk : Prop := fnFreeVariablesCloneIndependentRow.holds Tryf.pinned (OpenSpec.ofChange fnFreeVariablesCloneIndependentWrong)

/-- 'n008_19.FnCloneDesugaredFieldDetached': WHATEVER THE INPUT: true; the input reads as it did. -/
def fnCloneDesugaredFieldDetachedSpec : ChangeSpec := { name := "fnCloneDesugaredFieldDetached", fn := fun _ => fun
  | [d1, d2, d3] => { results := [.lit (.bool true)], args := [d1, d2, d3] }
  | _ => none }
def fnCloneDesugaredFieldDetachedRow : OpenClaim := { program := "ytgmmbimbbkbjfaafmt", sum := "d958dcd055cb7274e532143219b00f96d829a10a0b80b3efdb391a57b9aba896", func := "github.com/google/go-jsonnet/n008_19.FnCloneDesugaredFieldDetached", spec := "fnCloneDesugaredFieldDetached", stops := ["fmt.Sprintf"], inPlace := ["fmt.Sprintf"], unfollowed := true, recurses := true, apart := false }
/-- NO THEOREM (fmt's text is open here; it may be false): for the released tool's asking of the row's closed facts alone. THE STATEMENT IS 'FnCloneDesugaredFieldDetachedToldSaid' (YtgmmbimbbkbjfaaFmtCards.lean). -/
def FnCloneDesugaredFieldDetachedFormAsk : Prop := fnCloneDesugaredFieldDetachedRow.holds Tryf.pinned (OpenSpec.ofChange fnCloneDesugaredFieldDetachedSpec)

/-- ITS FALSE NEIGHBOUR: 'it returns false'. Refute it at one input. -/
def fnCloneDesugaredFieldDetachedWrong : ChangeSpec := { name := "fnCloneDesugaredFieldDetached", fn := fun _ => fun
  | [d1, d2, d3] => { results := [.lit (.bool false)], args := [d1, d2, d3] }
  | _ => none }
def FnCloneDesugaredFieldDetachedWrongFormAsk : Prop := fnCloneDesugaredFieldDetachedRow.holds Tryf.pinned (OpenSpec.ofChange fnCloneDesugaredFieldDetachedWrong)

/-- 'n008_147.FnCloneBinaryUnsharesChildren': WHATEVER THE INPUT: true; the input reads as it did. -/
def fnCloneBinaryUnsharesChildrenSpec : ChangeSpec := { name := "fnCloneBinaryUnsharesChildren", fn := fun _ => fun
  | [d1, d2, d3, d4, d5] => { results := [.lit (.bool true)], args := [d1, d2, d3, d4, d5] }
  | _ => none }
def fnCloneBinaryUnsharesChildrenRow : OpenClaim := { program := "ytgmmbimbbkbjfaafmt", sum := "d958dcd055cb7274e532143219b00f96d829a10a0b80b3efdb391a57b9aba896", func := "github.com/google/go-jsonnet/n008_147.FnCloneBinaryUnsharesChildren", spec := "fnCloneBinaryUnsharesChildren", stops := ["fmt.Sprintf"], inPlace := ["fmt.Sprintf"], unfollowed := true, recurses := true, apart := false }
/-- NO THEOREM (fmt's text is open here; it may be false): for the released tool's asking of the row's closed facts alone. THE STATEMENT IS 'FnCloneBinaryUnsharesChildrenToldSaid' (YtgmmbimbbkbjfaaFmtCards.lean). -/
def FnCloneBinaryUnsharesChildrenFormAsk : Prop := fnCloneBinaryUnsharesChildrenRow.holds Tryf.pinned (OpenSpec.ofChange fnCloneBinaryUnsharesChildrenSpec)

/-- ITS FALSE NEIGHBOUR: 'it returns false'. Refute it at one input. -/
def fnCloneBinaryUnsharesChildrenWrong : ChangeSpec := { name := "fnCloneBinaryUnsharesChildren", fn := fun _ => fun
  | [d1, d2, d3, d4, d5] => { results := [.lit (.bool false)], args := [d1, d2, d3, d4, d5] }
  | _ => none }
def FnCloneBinaryUnsharesChildrenWrongFormAsk : Prop := fnCloneBinaryUnsharesChildrenRow.holds Tryf.pinned (OpenSpec.ofChange fnCloneBinaryUnsharesChildrenWrong)

end Rows
end Go.Proofs.YtgmmbimbbkbjfaaFmt
