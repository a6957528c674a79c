/-
  The walk of FnCloneFieldDetached, from the arguments as they come.
-/
import Derived.Test.YtegabjiaekfmbaaFmtFdW
namespace Go.Proofs.YtegabjiaekfmbaaFmt.fnCloneFieldDetached
open Go Go.RowKit Go.ChangeShapes Go.WideShapes

set_option maxRecDepth 100000 in
theorem walk {H : Type} {enc : TypeId × Value → H} {base : Nat} (e1 e2 e3 : ByteArray) (v : Value) (d : DataW H) (p : List MemPlace) (bm : Bool) (w : World) (h1 : e1.size ≤ maxLen) (h2 : e2.size ≤ maxLen) (h3 : e3.size ≤ maxLen) (hv : Value.okWide Tryf.prog w .any base 22 v) (h : DataW.Trod enc Tryf.prog w 0 (fun _ => true) true 22 v d p) :
    Calls Tryf.prog 6 #[.string e1, .string e2, .string e3, v, .bool bm] w fun e w' => e = .returned (.bool true) ∧ Below w.heap.size w w' := by
  obtain ⟨zs, hs, hz⟩ := strs_open Tryf.underlying22 Tryf.underlying9 (by kernel_rfl) hv h
  obtain ⟨a, cap, rfl, hl⟩ := hs.len
  have hz' : ∀ i, i < zs.length → (zs.getD i ByteArray.empty).size ≤ maxLen := fun i hi => by
    rw [show zs.getD i ByteArray.empty = zs[i] by simp [List.getD, List.getElem?_eq_getElem hi]]
    exact hz _ (List.getElem_mem hi)
  exact walk_b e1 e2 e3 a zs.length cap zs bm w hs rfl hl h1 h2 h3 hz'

end Go.Proofs.YtegabjiaekfmbaaFmt.fnCloneFieldDetached
