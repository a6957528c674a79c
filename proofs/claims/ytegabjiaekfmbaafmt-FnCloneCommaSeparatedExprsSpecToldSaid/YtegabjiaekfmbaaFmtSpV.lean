/-
  The walk of FnCloneCommaSeparatedExprsSpec, from the arguments as they come.
-/
import Derived.Test.YtegabjiaekfmbaaFmtSpP
import Derived.Test.YtegabjiaekfmbaaFmtSpZ
import Derived.Test.YtegabjiaekfmbaaFmtSpN
namespace Go.Proofs.YtegabjiaekfmbaaFmt.fnCloneCommaSeparatedExprsSpec
open Go Go.RowKit Go.ChangeShapes Go.WideShapes

set_option maxRecDepth 100000 in
theorem walk {H : Type} {enc : TypeId × Value → H} {base : Nat} (v0 : Value) (d0 : DataW H) (p0 : List MemPlace) (v1 : Value) (d1 : DataW H) (p1 : List MemPlace) (v2 : Value) (d2 : DataW H) (p2 : List MemPlace) (bl : Int) (w : World) (hv0 : Value.okWide Tryf.prog w .any base 22 v0) (h0 : DataW.Trod enc Tryf.prog w 0 (fun _ => true) true 22 v0 d0 p0) (hv1 : Value.okWide Tryf.prog w .any base 91 v1) (h1 : DataW.Trod enc Tryf.prog w 0 (fun _ => true) true 91 v1 d1 p1)
    (hv2 : Value.okWide Tryf.prog w .any base 22 v2) (h2 : DataW.Trod enc Tryf.prog w 0 (fun _ => true) true 22 v2 d2 p2) (_ : (Lit.int .i64 bl).wf = true) :
    Calls Tryf.prog 5 #[v0, v1, v2, .int .i64 bl] w fun e w' => e = .returned (.bool true) ∧ Below w.heap.size w w' := by
  obtain ⟨fz, hs2, hz2⟩ := strs_open Tryf.underlying22 Tryf.underlying9 (by kernel_rfl) hv2 h2
  obtain ⟨fa, fc, rfl, hl2⟩ := hs2.len
  obtain ⟨zs, hs, hz⟩ := strs_open Tryf.underlying22 Tryf.underlying9 (by kernel_rfl) hv0 h0
  obtain ⟨m, f, hb⟩ := bools_open Tryf.underlying91 Tryf.underlying4 (by kernel_rfl) hv1 h1
  obtain ⟨pa, pc, rfl, hm⟩ := hb.len
  have sz : ∀ (zs : List ByteArray), (∀ z ∈ zs, z.size ≤ maxLen) → ∀ i, i < zs.length → (zs.getD i ByteArray.empty).size ≤ maxLen := fun zs hz i hi => by
    rw [show zs.getD i ByteArray.empty = zs[i] by simp [List.getD, List.getElem?_eq_getElem hi]]
    exact hz _ (List.getElem_mem hi)
  cases hs with
  | isNil => exact walk_nil pa m pc fa fz.length fc fz bl w hm hs2 rfl hl2 (sz fz hz2)
  | isAt b off cap zs' hb' hn hc =>
    by_cases hk : 0 < fz.length
    · exact walk_p _ _ cap zs pa m pc f fa fz.length fc fz bl w (.isAt b off cap zs hb' hn hc) rfl hn (sz zs hz) hb hm hs2 rfl hl2 (sz fz hz2) hk
    · exact walk_z _ _ cap zs pa m pc f fa fz.length fc fz bl w (.isAt b off cap zs hb' hn hc) rfl hn (sz zs hz) hb hm hs2 rfl hl2 (sz fz hz2) hk
  | isBare a cap =>
    by_cases hk : 0 < fz.length
    · exact walk_p a 0 cap [] pa m pc f fa fz.length fc fz bl w (.isBare a cap) rfl (Nat.zero_le _) (sz [] (by simp)) hb hm hs2 rfl hl2 (sz fz hz2) hk
    · exact walk_z a 0 cap [] pa m pc f fa fz.length fc fz bl w (.isBare a cap) rfl (Nat.zero_le _) (sz [] (by simp)) hb hm hs2 rfl hl2 (sz fz hz2) hk

end Go.Proofs.YtegabjiaekfmbaaFmt.fnCloneCommaSeparatedExprsSpec
