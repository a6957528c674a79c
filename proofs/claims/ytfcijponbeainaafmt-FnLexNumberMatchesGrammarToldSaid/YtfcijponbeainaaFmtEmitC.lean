/-
  emitToken: one token whose data is the input between token start and cursor; then the token start moves to the cursor.
-/
import Derived.Test.YtfcijponbeainaaFmtEmitB
namespace Go.Proofs.YtfcijponbeainaaFmt
open Go Go.RowKit Go.Shelf
attribute [local go_sem ↓] Go.wp_at_zero Go.wp_at_succ

/-- What emitToken leaves. -/
def EmittedTok (w : World) (a : Nat) (L : LexSt) (B n : Nat) (xs : List Value) (t : Nat) (k : Int) (e : Ending) (w' : World) : Prop :=
  e = .returned (.tuple #[]) ∧ ∃ g cap M, LexAt w' a ({ L with toks := .slice (some ⟨g, 0, none⟩) (n + 1) cap, fod := .slice (some ⟨M, 0, none⟩) 0 0 } : LexSt).reset ∧
    w'.ownsRow B 56 11 (.slice (some ⟨g, 0, none⟩) (n + 1) cap) (n + 1) (xs ++ tokCells L.fod (L.inp.extract t L.bn) ⟨#[]⟩ ⟨#[]⟩ L.src L.im L.tl L.tc L.loc1 L.loc2 k) ∧
    g ≠ a ∧ (L.toks.ownBlock = some g ∨ w.heap.size ≤ g) ∧ Kept (fun i => i = a ∨ L.toks.ownBlock = some i) w w'

end Go.Proofs.YtfcijponbeainaaFmt
