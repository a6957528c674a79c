/-
  The walk of FnPeekAgreesWithPop, from the arguments as they come.
-/
import Derived.Test.YtgdccdhkknbahaaFmtPkW
namespace Go.Proofs.YtgdccdhkknbahaaFmt.fnPeekAgreesWithPop
open Go Go.RowKit Go.ChangeShapes Go.WideShapes

set_option maxRecDepth 100000 in
theorem walk {H : Type} {enc : TypeId × Value → H} {base : Nat} (v0 : Value) (d0 : DataW H) (p0 : List MemPlace) (v1 : Value) (d1 : DataW H) (p1 : List MemPlace) (cur : Int) (w : World) (hv0 : Value.okWide Tryf.prog w .any base 44 v0) (h0 : DataW.Trod enc Tryf.prog w 0 (fun _ => true) true 44 v0 d0 p0) (hv1 : Value.okWide Tryf.prog w .any base 45 v1) (h1 : DataW.Trod enc Tryf.prog w 0 (fun _ => true) true 45 v1 d1 p1) (_ : (Lit.int .i64 cur).wf = true) :
    Calls Tryf.prog 6 #[v0, v1, .int .i64 cur] w fun e w' => e = .returned (.bool true) ∧ Below w.heap.size w w' := by
  obtain ⟨ks, hk, _⟩ := ints_open Tryf.underlying44 Tryf.underlying3 (by kernel_rfl) hv0 h0
  obtain ⟨ka, kc, rfl, hkl⟩ := hk.len
  obtain ⟨zs, hs, hz⟩ := strs_open Tryf.underlying45 Tryf.underlying9 (by kernel_rfl) hv1 h1
  obtain ⟨a, cap, rfl, hl⟩ := hs.len
  have hz' : ∀ i, i < zs.length → (zs.getD i ByteArray.empty).size ≤ maxLen := fun i hi => by
    rw [show zs.getD i ByteArray.empty = zs[i] by simp [List.getD, List.getElem?_eq_getElem hi]]
    exact hz _ (List.getElem_mem hi)
  exact walk_main ka ks.length kc ks cur a zs.length cap zs w hk rfl hs rfl hkl hl hz'

end Go.Proofs.YtgdccdhkknbahaaFmt.fnPeekAgreesWithPop
