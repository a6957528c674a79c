/-
  The walk of FnEmitFullTokenExact, from the arguments as they come.
-/
import Derived.Test.YtgcgafkedhohcaaFmtFullW
namespace Go.Proofs.YtgcgafkedhohcaaFmt.fnEmitFullTokenExact
open Go Go.RowKit Go.Shelf

set_option maxRecDepth 100000 in
theorem walk {H : Type} {enc : TypeId × Value → H} {r : Reach} {b0 : Nat} (s : ByteArray) (j k kd : Int) (da si st : ByteArray) (v7 : Value) (d7 : DataW H) (p7 : List MemPlace) (w : World) (hs : s.size ≤ maxLen) (_ : (Lit.int .i64 j).wf = true) (_ : (Lit.int .i64 k).wf = true) (_ : (Lit.int .i64 kd).wf = true) (hd : da.size ≤ maxLen) (hsi : si.size ≤ maxLen) (hst : st.size ≤ maxLen)
    (hv : Value.okWide Tryf.prog w r b0 23 v7) (h7 : DataW.Trod enc Tryf.prog w 0 (fun _ => true) true 23 v7 d7 p7) (hL : laidMetH Tryf.prog Rows.fnEmitFullTokenExactRow.laid w) :
    Calls Tryf.prog 7 #[.string s, .int .i64 j, .int .i64 k, .int .i64 kd, .string da, .string si, .string st, v7] w fun e w' => e = .returned (.bool true) ∧ Below w.heap.size w w' := by
  have hT := tabs_of_laid (by kernel_rfl) (by simp [Rows.fnEmitFullTokenExactRow]) (by simp [Rows.fnEmitFullTokenExactRow]) hL
  clear hL
  obtain ⟨zs, hi, hz⟩ := strs_open Tryf.underlying23 Tryf.underlying9 (by kernel_rfl) hv h7
  obtain ⟨a, c, rfl, hn⟩ := hi.len
  refine core s j k kd da si st a zs.length c zs w hs hd hsi hst hi rfl hn (fun i hi' => ?_) hT
  rw [List.getD_eq_getElem?_getD, List.getElem?_eq_getElem hi']
  exact hz _ (List.getElem_mem hi')

end Go.Proofs.YtgcgafkedhohcaaFmt.fnEmitFullTokenExact
