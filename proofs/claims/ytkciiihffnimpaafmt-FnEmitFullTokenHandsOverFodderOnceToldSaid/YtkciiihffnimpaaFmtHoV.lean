/-
  The walk of FnEmitFullTokenHandsOverFodderOnce, from the arguments as they come.
-/
import Derived.Test.YtkciiihffnimpaaFmtHoW
namespace Go.Proofs.YtkciiihffnimpaaFmt.fnEmitFullTokenHandsOverFodderOnce
open Go Go.RowKit Go.Shelf

theorem lit_range {z : Int} (h : (Lit.int .i64 z).wf = true) : -9223372036854775808 ≤ z ∧ z ≤ 9223372036854775807 := by
  have e1 : IntKind.i64.min = -9223372036854775808 := by decide
  simp [Lit.wf, IntKind.wrap_i64] at h
  omega
set_option maxRecDepth 100000 in
theorem walk {H : Type} {enc : TypeId × Value → H} {r : Reach} {b0 : Nat} (s : ByteArray) (v1 : Value) (d1 : DataW H) (p1 : List MemPlace) (v2 : Value) (d2 : DataW H) (p2 : List MemPlace) (w : World) (hs : s.size ≤ maxLen)
    (hv1 : Value.okWide Tryf.prog w r b0 22 v1) (h1 : DataW.Trod enc Tryf.prog w 0 (fun _ => true) true 22 v1 d1 p1)
    (hv2 : Value.okWide Tryf.prog w r b0 23 v2) (h2 : DataW.Trod enc Tryf.prog w 0 (fun _ => true) true 23 v2 d2 p2) (hL : laidMetH Tryf.prog Rows.fnEmitFullTokenHandsOverFodderOnceRow.laid w) :
    Calls Tryf.prog 4 #[.string s, v1, v2] w fun e w' => e = .returned (.bool true) ∧ Below w.heap.size w w' := by
  have hT := tabs_of_laid (by kernel_rfl) (by simp [Rows.fnEmitFullTokenHandsOverFodderOnceRow]) (by simp [Rows.fnEmitFullTokenHandsOverFodderOnceRow]) hL
  clear hL
  obtain ⟨ks, hk, hkr⟩ := ints_open Tryf.underlying22 Tryf.underlying3 (by kernel_rfl) hv1 h1
  obtain ⟨a1, c1, rfl, hn1⟩ := hk.len
  obtain ⟨zs, hz, hzz⟩ := strs_open Tryf.underlying23 Tryf.underlying9 (by kernel_rfl) hv2 h2
  obtain ⟨a, c, rfl, hn⟩ := hz.len
  refine core s a1 a ks.length c1 zs.length c ks zs w hs hk rfl hz rfl hn1 hn (fun i hi' => ?_) (fun i => ?_) hT
  · rw [List.getD_eq_getElem?_getD, List.getElem?_eq_getElem hi']
    exact hzz _ (List.getElem_mem hi')
  · by_cases h : i < ks.length
    · rw [List.getD_eq_getElem?_getD, List.getElem?_eq_getElem h]
      exact lit_range (hkr _ (List.getElem_mem h))
    · rw [List.getD_eq_getElem?_getD, List.getElem?_eq_none (by omega)]
      decide

end Go.Proofs.YtkciiihffnimpaaFmt.fnEmitFullTokenHandsOverFodderOnce
