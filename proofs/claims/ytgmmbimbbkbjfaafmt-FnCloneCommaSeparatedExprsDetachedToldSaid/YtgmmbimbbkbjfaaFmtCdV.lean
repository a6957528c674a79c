/-
  The walk of FnCloneCommaSeparatedExprsDetached, from the arguments as they come.
-/
import Derived.Test.YtgmmbimbbkbjfaaFmtCdW
namespace Go.Proofs.YtgmmbimbbkbjfaaFmt.fnCloneCommaSeparatedExprsDetached
open Go Go.RowKit Go.ChangeShapes Go.WideShapes

set_option maxRecDepth 100000 in
theorem walk {H : Type} {enc : TypeId × Value → H} {base : Nat} (v0 : Value) (d0 : DataW H) (p0 : List MemPlace) (v1 : Value) (d1 : DataW H) (p1 : List MemPlace) (w : World) (hv0 : Value.okWide Tryf.prog w .any base 56 v0) (h0 : DataW.Trod enc Tryf.prog w 0 (fun _ => true) true 56 v0 d0 p0) (hv1 : Value.okWide Tryf.prog w .any base 57 v1) (h1 : DataW.Trod enc Tryf.prog w 0 (fun _ => true) true 57 v1 d1 p1) :
    Calls Tryf.prog 4 #[v0, v1] w fun e w' => e = .returned (.bool true) ∧ Below w.heap.size w w' := by
  obtain ⟨zs, hs, hz⟩ := strs_open Tryf.underlying56 Tryf.underlying9 (by kernel_rfl) hv0 h0
  obtain ⟨a, cap, rfl, hl⟩ := hs.len
  obtain ⟨m, f, hb⟩ := bools_open Tryf.underlying57 Tryf.underlying4 (by kernel_rfl) hv1 h1
  obtain ⟨pa, pc, rfl, hm⟩ := hb.len
  have hz' : ∀ i, i < zs.length → (zs.getD i ByteArray.empty).size ≤ maxLen := fun i hi => by
    rw [show zs.getD i ByteArray.empty = zs[i] by simp [List.getD, List.getElem?_eq_getElem hi]]
    exact hz _ (List.getElem_mem hi)
  exact walk_main a zs.length cap zs pa m pc f w hs rfl hl hz' hb hm

end Go.Proofs.YtgmmbimbbkbjfaaFmt.fnCloneCommaSeparatedExprsDetached
