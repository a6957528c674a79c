/-
  The walk of FnCloneFieldSpec, from the arguments as they come.
-/
import Derived.Test.YtegabjiaekfmbaaFmtFsW
namespace Go.Proofs.YtegabjiaekfmbaaFmt.fnCloneFieldSpec
open Go Go.RowKit Go.ChangeShapes Go.WideShapes

set_option maxRecDepth 100000 in
theorem walk {H : Type} {enc : TypeId × Value → H} {base : Nat} (kd hd : Int) (ss : Bool) (id e1 e2 e3 : ByteArray) (pr : Int) (v : Value) (d : DataW H) (p : List MemPlace) (ln : Int) (w : World) (_ : (Lit.int .i64 kd).wf = true) (_ : (Lit.int .i64 hd).wf = true) (h0 : id.size ≤ maxLen) (h1 : e1.size ≤ maxLen) (h2 : e2.size ≤ maxLen) (h3 : e3.size ≤ maxLen) (_ : (Lit.int .u8 pr).wf = true) (hv : Value.okWide Tryf.prog w .any base 22 v) (h : DataW.Trod enc Tryf.prog w 0 (fun _ => true) true 22 v d p) (_ : (Lit.int .i64 ln).wf = true) :
    Calls Tryf.prog 4 #[.int .i64 kd, .int .i64 hd, .bool ss, .string id, .string e1, .string e2, .string e3, .int .u8 pr, v, .int .i64 ln] w fun e w' => e = .returned (.bool true) ∧ Below w.heap.size w w' := by
  obtain ⟨zs, hs, hz⟩ := strs_open Tryf.underlying22 Tryf.underlying9 (by kernel_rfl) hv h
  obtain ⟨a, cap, rfl, hl⟩ := hs.len
  have hz' : ∀ i, i < zs.length → (zs.getD i ByteArray.empty).size ≤ maxLen := fun i hi => by
    rw [show zs.getD i ByteArray.empty = zs[i] by simp [List.getD, List.getElem?_eq_getElem hi]]
    exact hz _ (List.getElem_mem hi)
  exact walk_b kd hd ss id e1 e2 e3 pr a zs.length cap zs ln w hs rfl hl h0 h1 h2 h3 hz'

end Go.Proofs.YtegabjiaekfmbaaFmt.fnCloneFieldSpec
