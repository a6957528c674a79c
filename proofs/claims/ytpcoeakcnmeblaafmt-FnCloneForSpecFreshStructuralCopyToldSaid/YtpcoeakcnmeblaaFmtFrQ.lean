/-
  The walk of FnCloneForSpecFreshStructuralCopy, from the argument as the row hands it.
-/
import Derived.Test.YtpcoeakcnmeblaaFmtFrV
import Derived.Test.YtpcoeakcnmeblaaFmtFrL
namespace Go.Proofs.YtpcoeakcnmeblaaFmt.fnCloneForSpecFreshStructuralCopy
open Go Go.RowKit Go.ChangeShapes Go.WideShapes Fr

set_option maxRecDepth 100000 in
theorem walk {H : Type} {enc : TypeId × Value → H} {base : Nat} (v : Value) (d : DataW H) (p : List MemPlace) (w : World) (hv : Value.okWide Tryf.prog w .any base 22 v) (h : DataW.Trod enc Tryf.prog w 0 (fun _ => true) true 22 v d p) :
    Calls Tryf.prog 4 #[v] w fun e w' => e = .returned (.bool true) ∧ Below w.heap.size w w' := by
  obtain ⟨a, n, c, f, rfl, hL, hW⟩ := levs_open hv h
  exact walk_main a n c f w hL hW

end Go.Proofs.YtpcoeakcnmeblaaFmt.fnCloneForSpecFreshStructuralCopy
