/-
  No cell of these rows narrows 'for every input' (looked for: loops, veiled, ifaces, maps, wideKeys, modest, calm, conditions, laid).
  DERIVED. THE GIVEN ROWS OF THIS SEAT. 2 by the template 'for every input the law returns true; each argument reads behind the call as it read before'; 0 by the template 'total and deterministic' (their statements: YtpcoeakcnmeblaaFmtTotals.lean).
  GIVEN WITH THE SEED: the statements are not yours to turn. If you find one false, say at which input.
  Laid BY PROGRAM, IN A SANDBOX (cutbox-rows.mjs): the forced cells as the released guide's own fill.sh prints them over the translation 14c7db45c34e4764… (all of the seat's roots in one cut). By AI agents, Wed Nov 11 2026. No macro, syntax, notation, axiom, sorry.
-/
import Derived.Test.YtpcoeakcnmeblaaFmtChecked
import GoSem.Claim
import GoSem.ClaimJoined
import GoSem.ClaimMapViews
import Derived.JoinedTies
import Derived.KernelRfl
namespace Go.Proofs.YtpcoeakcnmeblaaFmt
/- THE CELL 'sum', in the pinned program and in every row, IS THE sha256 OF THE DUMP (.gsa) THAT YtpcoeakcnmeblaaFmtProg.lean LOADS. Nothing in Lean hashes anything: it is a label: what it is worth is what the hold of that sum in a sandbox is worth. -/
noncomputable def Tryf.pinned : Pinned := { name := "ytpcoeakcnmeblaafmt", sum := "14c7db45c34e4764f5626ab893e455338c0a0310f4f49a94620b5e92c6a4d993", checked := Tryf.checked }
namespace Rows
def none {H : Type} : Left H := { results := [], args := [] }

/-- 'n008_165.FnCloneForSpecSharesConditionList': WHATEVER THE INPUT: true; the input reads as it did. -/
def fnCloneForSpecSharesConditionListSpec : ChangeSpec := { name := "fnCloneForSpecSharesConditionList", fn := fun _ => fun
  | [d] => { results := [.lit (.bool true)], args := [d] }
  | _ => none }
def fnCloneForSpecSharesConditionListRow : OpenClaim := { program := "ytpcoeakcnmeblaafmt", sum := "14c7db45c34e4764f5626ab893e455338c0a0310f4f49a94620b5e92c6a4d993", func := "github.com/google/go-jsonnet/n008_165.FnCloneForSpecSharesConditionList", spec := "fnCloneForSpecSharesConditionList", stops := ["fmt.Sprintf"], inPlace := ["fmt.Sprintf"], unfollowed := true, recurses := true, apart := false }
/-- NO THEOREM (fmt's text is open here; it may be false): for the released tool's asking of the row's closed facts alone. THE STATEMENT IS 'FnCloneForSpecSharesConditionListToldSaid' (YtpcoeakcnmeblaaFmtCards.lean). -/
def FnCloneForSpecSharesConditionListFormAsk : Prop := fnCloneForSpecSharesConditionListRow.holds Tryf.pinned (OpenSpec.ofChange fnCloneForSpecSharesConditionListSpec)

/-- ITS FALSE NEIGHBOUR: 'it returns false'. Refute it at one input. -/
def fnCloneForSpecSharesConditionListWrong : ChangeSpec := { name := "fnCloneForSpecSharesConditionList", fn := fun _ => fun
  | [d] => { results := [.lit (.bool false)], args := [d] }
  | _ => none }
def FnCloneForSpecSharesConditionListWrongFormAsk : Prop := fnCloneForSpecSharesConditionListRow.holds Tryf.pinned (OpenSpec.ofChange fnCloneForSpecSharesConditionListWrong)

/-- 'n008_165.FnCloneForSpecFreshStructuralCopy': WHATEVER THE INPUT: true; the input reads as it did. -/
def fnCloneForSpecFreshStructuralCopySpec : ChangeSpec := { name := "fnCloneForSpecFreshStructuralCopy", fn := fun _ => fun
  | [d] => { results := [.lit (.bool true)], args := [d] }
  | _ => none }
def fnCloneForSpecFreshStructuralCopyRow : OpenClaim := { program := "ytpcoeakcnmeblaafmt", sum := "14c7db45c34e4764f5626ab893e455338c0a0310f4f49a94620b5e92c6a4d993", func := "github.com/google/go-jsonnet/n008_165.FnCloneForSpecFreshStructuralCopy", spec := "fnCloneForSpecFreshStructuralCopy", stops := ["fmt.Sprintf"], inPlace := ["fmt.Sprintf"], unfollowed := true, recurses := true, apart := false }
/-- NO THEOREM (fmt's text is open here; it may be false): for the released tool's asking of the row's closed facts alone. THE STATEMENT IS 'FnCloneForSpecFreshStructuralCopyToldSaid' (YtpcoeakcnmeblaaFmtCards.lean). -/
def FnCloneForSpecFreshStructuralCopyFormAsk : Prop := fnCloneForSpecFreshStructuralCopyRow.holds Tryf.pinned (OpenSpec.ofChange fnCloneForSpecFreshStructuralCopySpec)

/-- ITS FALSE NEIGHBOUR: 'it returns false'. Refute it at one input. -/
def fnCloneForSpecFreshStructuralCopyWrong : ChangeSpec := { name := "fnCloneForSpecFreshStructuralCopy", fn := fun _ => fun
  | [d] => { results := [.lit (.bool false)], args := [d] }
  | _ => none }
def FnCloneForSpecFreshStructuralCopyWrongFormAsk : Prop := fnCloneForSpecFreshStructuralCopyRow.holds Tryf.pinned (OpenSpec.ofChange fnCloneForSpecFreshStructuralCopyWrong)

end Rows
end Go.Proofs.YtpcoeakcnmeblaaFmt
