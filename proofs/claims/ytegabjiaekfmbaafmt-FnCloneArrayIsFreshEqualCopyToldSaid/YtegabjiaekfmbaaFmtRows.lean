/-
  No cell of these rows narrows 'for every input' (looked for: loops, veiled, ifaces, maps, wideKeys, modest, calm, conditions, laid).
  DERIVED. THE GIVEN ROWS OF THIS SEAT. 5 by the template 'for every input the law returns true; each argument reads behind the call as it read before'; 0 by the template 'total and deterministic' (their statements: YtegabjiaekfmbaaFmtTotals.lean).
  GIVEN WITH THE SEED: the statements are not yours to turn. If you find one false, say at which input.
  Laid BY PROGRAM, IN A SANDBOX (cutbox-rows.mjs): the forced cells as the released guide's own fill.sh prints them over the translation c82a0867c9a5f295… (all of the seat's roots in one cut). By AI agents, Wed Nov 11 2026. No macro, syntax, notation, axiom, sorry.
-/
import Derived.Test.YtegabjiaekfmbaaFmtChecked
import GoSem.Claim
import GoSem.ClaimJoined
import GoSem.ClaimMapViews
import Derived.JoinedTies
import Derived.KernelRfl
namespace Go.Proofs.YtegabjiaekfmbaaFmt
/- THE CELL 'sum', in the pinned program and in every row, IS THE sha256 OF THE DUMP (.gsa) THAT YtegabjiaekfmbaaFmtProg.lean LOADS. Nothing in Lean hashes anything: it is a label: what it is worth is what the hold of that sum in a sandbox is worth. -/
noncomputable def Tryf.pinned : Pinned := { name := "ytegabjiaekfmbaafmt", sum := "c82a0867c9a5f2950f7e715911f1ae1b9c58ca6099ea82fa5ddcec05e6fcb28b", checked := Tryf.checked }
namespace Rows
def none {H : Type} : Left H := { results := [], args := [] }

/-- 'n008_147.FnCloneArrayIsFreshEqualCopy': WHATEVER THE INPUT: true; the input reads as it did. -/
def fnCloneArrayIsFreshEqualCopySpec : ChangeSpec := { name := "fnCloneArrayIsFreshEqualCopy", fn := fun _ => fun
  | [d1, d2, d3, d4, d5, d6, d7, d8] => { results := [.lit (.bool true)], args := [d1, d2, d3, d4, d5, d6, d7, d8] }
  | _ => none }
def fnCloneArrayIsFreshEqualCopyRow : OpenClaim := { program := "ytegabjiaekfmbaafmt", sum := "c82a0867c9a5f2950f7e715911f1ae1b9c58ca6099ea82fa5ddcec05e6fcb28b", func := "github.com/google/go-jsonnet/n008_147.FnCloneArrayIsFreshEqualCopy", spec := "fnCloneArrayIsFreshEqualCopy", stops := ["fmt.Sprintf"], inPlace := ["fmt.Sprintf"], unfollowed := true, recurses := true, apart := false }
/-- NO THEOREM (fmt's text is open here; it may be false): for the released tool's asking of the row's closed facts alone. THE STATEMENT IS 'FnCloneArrayIsFreshEqualCopyToldSaid' (YtegabjiaekfmbaaFmtCards.lean). -/
def FnCloneArrayIsFreshEqualCopyFormAsk : Prop := fnCloneArrayIsFreshEqualCopyRow.holds Tryf.pinned (OpenSpec.ofChange fnCloneArrayIsFreshEqualCopySpec)

/-- ITS FALSE NEIGHBOUR: 'it returns false'. Refute it at one input. -/
def fnCloneArrayIsFreshEqualCopyWrong : ChangeSpec := { name := "fnCloneArrayIsFreshEqualCopy", fn := fun _ => fun
  | [d1, d2, d3, d4, d5, d6, d7, d8] => { results := [.lit (.bool false)], args := [d1, d2, d3, d4, d5, d6, d7, d8] }
  | _ => none }
def FnCloneArrayIsFreshEqualCopyWrongFormAsk : Prop := fnCloneArrayIsFreshEqualCopyRow.holds Tryf.pinned (OpenSpec.ofChange fnCloneArrayIsFreshEqualCopyWrong)

/-- 'n008_19.FnCloneFieldSpec': WHATEVER THE INPUT: true; the input reads as it did. -/
def fnCloneFieldSpecSpec : ChangeSpec := { name := "fnCloneFieldSpec", fn := fun _ => fun
  | [d1, d2, d3, d4, d5, d6, d7, d8, d9, d10] => { results := [.lit (.bool true)], args := [d1, d2, d3, d4, d5, d6, d7, d8, d9, d10] }
  | _ => none }
def fnCloneFieldSpecRow : OpenClaim := { program := "ytegabjiaekfmbaafmt", sum := "c82a0867c9a5f2950f7e715911f1ae1b9c58ca6099ea82fa5ddcec05e6fcb28b", func := "github.com/google/go-jsonnet/n008_19.FnCloneFieldSpec", spec := "fnCloneFieldSpec", stops := ["fmt.Sprintf"], inPlace := ["fmt.Sprintf"], unfollowed := true, recurses := true, apart := false }
/-- NO THEOREM (fmt's text is open here; it may be false): for the released tool's asking of the row's closed facts alone. THE STATEMENT IS 'FnCloneFieldSpecToldSaid' (YtegabjiaekfmbaaFmtCards.lean). -/
def FnCloneFieldSpecFormAsk : Prop := fnCloneFieldSpecRow.holds Tryf.pinned (OpenSpec.ofChange fnCloneFieldSpecSpec)

/-- ITS FALSE NEIGHBOUR: 'it returns false'. Refute it at one input. -/
def fnCloneFieldSpecWrong : ChangeSpec := { name := "fnCloneFieldSpec", fn := fun _ => fun
  | [d1, d2, d3, d4, d5, d6, d7, d8, d9, d10] => { results := [.lit (.bool false)], args := [d1, d2, d3, d4, d5, d6, d7, d8, d9, d10] }
  | _ => none }
def FnCloneFieldSpecWrongFormAsk : Prop := fnCloneFieldSpecRow.holds Tryf.pinned (OpenSpec.ofChange fnCloneFieldSpecWrong)

/-- 'n008_19.FnCloneCommaSeparatedExprsSpec': WHATEVER THE INPUT: true; the input reads as it did. -/
def fnCloneCommaSeparatedExprsSpecSpec : ChangeSpec := { name := "fnCloneCommaSeparatedExprsSpec", fn := fun _ => fun
  | [d1, d2, d3, d4] => { results := [.lit (.bool true)], args := [d1, d2, d3, d4] }
  | _ => none }
def fnCloneCommaSeparatedExprsSpecRow : OpenClaim := { program := "ytegabjiaekfmbaafmt", sum := "c82a0867c9a5f2950f7e715911f1ae1b9c58ca6099ea82fa5ddcec05e6fcb28b", func := "github.com/google/go-jsonnet/n008_19.FnCloneCommaSeparatedExprsSpec", spec := "fnCloneCommaSeparatedExprsSpec", stops := ["fmt.Sprintf"], inPlace := ["fmt.Sprintf"], unfollowed := true, recurses := true, apart := false }
/-- NO THEOREM (fmt's text is open here; it may be false): for the released tool's asking of the row's closed facts alone. THE STATEMENT IS 'FnCloneCommaSeparatedExprsSpecToldSaid' (YtegabjiaekfmbaaFmtCards.lean). -/
def FnCloneCommaSeparatedExprsSpecFormAsk : Prop := fnCloneCommaSeparatedExprsSpecRow.holds Tryf.pinned (OpenSpec.ofChange fnCloneCommaSeparatedExprsSpecSpec)

/-- ITS FALSE NEIGHBOUR: 'it returns false'. Refute it at one input. -/
def fnCloneCommaSeparatedExprsSpecWrong : ChangeSpec := { name := "fnCloneCommaSeparatedExprsSpec", fn := fun _ => fun
  | [d1, d2, d3, d4] => { results := [.lit (.bool false)], args := [d1, d2, d3, d4] }
  | _ => none }
def FnCloneCommaSeparatedExprsSpecWrongFormAsk : Prop := fnCloneCommaSeparatedExprsSpecRow.holds Tryf.pinned (OpenSpec.ofChange fnCloneCommaSeparatedExprsSpecWrong)

/-- 'n008_19.FnCloneFieldDetached': WHATEVER THE INPUT: true; the input reads as it did. -/
def fnCloneFieldDetachedSpec : ChangeSpec := { name := "fnCloneFieldDetached", fn := fun _ => fun
  | [d1, d2, d3, d4, d5] => { results := [.lit (.bool true)], args := [d1, d2, d3, d4, d5] }
  | _ => none }
def fnCloneFieldDetachedRow : OpenClaim := { program := "ytegabjiaekfmbaafmt", sum := "c82a0867c9a5f2950f7e715911f1ae1b9c58ca6099ea82fa5ddcec05e6fcb28b", func := "github.com/google/go-jsonnet/n008_19.FnCloneFieldDetached", spec := "fnCloneFieldDetached", stops := ["fmt.Sprintf"], inPlace := ["fmt.Sprintf"], unfollowed := true, recurses := true, apart := false }
/-- NO THEOREM (fmt's text is open here; it may be false): for the released tool's asking of the row's closed facts alone. THE STATEMENT IS 'FnCloneFieldDetachedToldSaid' (YtegabjiaekfmbaaFmtCards.lean). -/
def FnCloneFieldDetachedFormAsk : Prop := fnCloneFieldDetachedRow.holds Tryf.pinned (OpenSpec.ofChange fnCloneFieldDetachedSpec)

/-- ITS FALSE NEIGHBOUR: 'it returns false'. Refute it at one input. -/
def fnCloneFieldDetachedWrong : ChangeSpec := { name := "fnCloneFieldDetached", fn := fun _ => fun
  | [d1, d2, d3, d4, d5] => { results := [.lit (.bool false)], args := [d1, d2, d3, d4, d5] }
  | _ => none }
def FnCloneFieldDetachedWrongFormAsk : Prop := fnCloneFieldDetachedRow.holds Tryf.pinned (OpenSpec.ofChange fnCloneFieldDetachedWrong)

/-- 'n008_147.FnCloneArraySourceWritesDoNotReachClone': WHATEVER THE INPUT: true; the input reads as it did. -/
def fnCloneArraySourceWritesDoNotReachCloneSpec : ChangeSpec := { name := "fnCloneArraySourceWritesDoNotReachClone", fn := fun _ => fun
  | [d1, d2, d3, d4, d5, d6, d7, d8] => { results := [.lit (.bool true)], args := [d1, d2, d3, d4, d5, d6, d7, d8] }
  | _ => none }
def fnCloneArraySourceWritesDoNotReachCloneRow : OpenClaim := { program := "ytegabjiaekfmbaafmt", sum := "c82a0867c9a5f2950f7e715911f1ae1b9c58ca6099ea82fa5ddcec05e6fcb28b", func := "github.com/google/go-jsonnet/n008_147.FnCloneArraySourceWritesDoNotReachClone", spec := "fnCloneArraySourceWritesDoNotReachClone", stops := ["fmt.Sprintf"], inPlace := ["fmt.Sprintf"], unfollowed := true, recurses := true, apart := false }
/-- NO THEOREM (fmt's text is open here; it may be false): for the released tool's asking of the row's closed facts alone. THE STATEMENT IS 'FnCloneArraySourceWritesDoNotReachCloneToldSaid' (YtegabjiaekfmbaaFmtCards.lean). -/
def FnCloneArraySourceWritesDoNotReachCloneFormAsk : Prop := fnCloneArraySourceWritesDoNotReachCloneRow.holds Tryf.pinned (OpenSpec.ofChange fnCloneArraySourceWritesDoNotReachCloneSpec)

/-- ITS FALSE NEIGHBOUR: 'it returns false'. Refute it at one input. -/
def fnCloneArraySourceWritesDoNotReachCloneWrong : ChangeSpec := { name := "fnCloneArraySourceWritesDoNotReachClone", fn := fun _ => fun
  | [d1, d2, d3, d4, d5, d6, d7, d8] => { results := [.lit (.bool false)], args := [d1, d2, d3, d4, d5, d6, d7, d8] }
  | _ => none }
def FnCloneArraySourceWritesDoNotReachCloneWrongFormAsk : Prop := fnCloneArraySourceWritesDoNotReachCloneRow.holds Tryf.pinned (OpenSpec.ofChange fnCloneArraySourceWritesDoNotReachCloneWrong)

end Rows
end Go.Proofs.YtegabjiaekfmbaaFmt
