/-
  The walk of FnFreeVariablesCloneIndependent, from the arguments as they come.
-/
import Derived.Test.YtgmmbimbbkbjfaaFmtFvW
namespace Go.Proofs.YtgmmbimbbkbjfaaFmt.fnFreeVariablesCloneIndependent
open Go Go.RowKit Go.ChangeShapes Go.WideShapes

set_option maxRecDepth 100000 in
theorem walk {H : Type} {enc : TypeId × Value → H} {base : Nat} (id : ByteArray) (v : Value) (d : DataW H) (p : List MemPlace) (ctx : ByteArray) (b : Bool) (w : World) (h1 : id.size ≤ maxLen) (hv : Value.okWide Tryf.prog w .any base 56 v) (h : DataW.Trod enc Tryf.prog w 0 (fun _ => true) true 56 v d p) (h2 : ctx.size ≤ maxLen) :
    Calls Tryf.prog 5 #[.string id, v, .string ctx, .bool b] w fun e w' => e = .returned (.bool true) ∧ Below w.heap.size w w' := by
  obtain ⟨zs, hs, hz⟩ := strs_open Tryf.underlying56 Tryf.underlying9 (by kernel_rfl) hv h
  obtain ⟨a, cap, rfl, hl⟩ := hs.len
  have hz' : ∀ i, i < zs.length → (zs.getD i ByteArray.empty).size ≤ maxLen := fun i hi => by
    rw [show zs.getD i ByteArray.empty = zs[i] by simp [List.getD, List.getElem?_eq_getElem hi]]
    exact hz _ (List.getElem_mem hi)
  rcases Nat.eq_zero_or_pos zs.length with h0 | h0
  · cases b with
    | false => exact walk_zf id ctx a zs.length cap zs w hs rfl hl h1 h2 hz' h0
    | true => exact walk_zt id ctx a zs.length cap zs w hs rfl hl h1 h2 hz' h0
  · cases b with
    | false => exact walk_pf id ctx a zs.length cap zs w hs rfl hl h1 h2 hz' h0
    | true => exact walk_pt id ctx a zs.length cap zs w hs rfl hl h1 h2 hz' h0

end Go.Proofs.YtgmmbimbbkbjfaaFmt.fnFreeVariablesCloneIndependent
