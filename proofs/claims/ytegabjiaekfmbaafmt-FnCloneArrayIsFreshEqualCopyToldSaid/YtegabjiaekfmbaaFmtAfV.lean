/-
  The walk of FnCloneArrayIsFreshEqualCopy, from the arguments as they come.
-/
import Derived.Test.YtegabjiaekfmbaaFmtAfW
namespace Go.Proofs.YtegabjiaekfmbaaFmt.fnCloneArrayIsFreshEqualCopy
open Go Go.RowKit Go.ChangeShapes Go.WideShapes

set_option maxRecDepth 100000 in
theorem walk {H : Type} {enc : TypeId × Value → H} {base : Nat} (v0 : Value) (d0 : DataW H) (p0 : List MemPlace) (v1 : Value) (d1 : DataW H) (p1 : List MemPlace) (cx : ByteArray) (ba bv bs : Bool) (fm : Int) (tc : Bool) (w : World) (hv0 : Value.okWide Tryf.prog w .any base 22 v0) (h0 : DataW.Trod enc Tryf.prog w 0 (fun _ => true) true 22 v0 d0 p0) (hv1 : Value.okWide Tryf.prog w .any base 22 v1) (h1 : DataW.Trod enc Tryf.prog w 0 (fun _ => true) true 22 v1 d1 p1) (h2 : cx.size ≤ maxLen) (_ : (Lit.int .i64 fm).wf = true) :
    Calls Tryf.prog 3 #[v0, v1, .string cx, .bool ba, .bool bv, .bool bs, .int .i64 fm, .bool tc] w fun e w' => e = .returned (.bool true) ∧ Below w.heap.size w w' := by
  obtain ⟨zs, hs, hz⟩ := strs_open Tryf.underlying22 Tryf.underlying9 (by kernel_rfl) hv0 h0
  obtain ⟨a, cap, rfl, hl⟩ := hs.len
  have hz' : ∀ i, i < zs.length → (zs.getD i ByteArray.empty).size ≤ maxLen := fun i hi => by
    rw [show zs.getD i ByteArray.empty = zs[i] by simp [List.getD, List.getElem?_eq_getElem hi]]
    exact hz _ (List.getElem_mem hi)
  obtain ⟨fz, hs1, hz1⟩ := strs_open Tryf.underlying22 Tryf.underlying9 (by kernel_rfl) hv1 h1
  obtain ⟨fa, fcap, rfl, hl1⟩ := hs1.len
  have hz1' : ∀ i, i < fz.length → (fz.getD i ByteArray.empty).size ≤ maxLen := fun i hi => by
    rw [show fz.getD i ByteArray.empty = fz[i] by simp [List.getD, List.getElem?_eq_getElem hi]]
    exact hz1 _ (List.getElem_mem hi)
  exact walk_b a zs.length cap zs fa fz.length fcap fz cx ba bv bs fm tc w hs rfl hl hl1 hz' hs1 rfl hz1' h2

end Go.Proofs.YtegabjiaekfmbaaFmt.fnCloneArrayIsFreshEqualCopy
