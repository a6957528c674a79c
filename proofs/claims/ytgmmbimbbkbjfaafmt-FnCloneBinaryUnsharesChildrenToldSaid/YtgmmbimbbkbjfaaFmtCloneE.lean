/-
  ZZcloneBinary; the laws' shims on a Binary.
-/
import Derived.Test.YtgmmbimbbkbjfaaFmtCloneD
import Derived.Test.YtgmmbimbbkbjfaaFmtDfA
namespace Go.Proofs.YtgmmbimbbkbjfaaFmt
open Go Go.RowKit

theorem NBok.below {w w' : World} {n : NBase} {zs : List ByteArray} {c : Option ByteArray} (h : NBok w n zs c) (hb : Below w.heap.size w w') : NBok w' n zs c := by
  refine ⟨strs_keep (X := w) h.fv hb.size (fun p z hlt hq => (hb.cell hlt).trans hq) (Below.refl _ _), h.len, h.le, ?_⟩
  have hc := h.ctx
  cases c with
  | none => exact hc
  | some t =>
    obtain ⟨q, hq, hc⟩ := hc
    exact ⟨q, hq, (hb.cell (p := ⟨q, 0, none⟩) (World.block_lt_of_cell? w ⟨q, 0, none⟩ hc)).trans hc⟩

def ZBin (fo : Option Addr) (fn fc : Nat) (n : NBase) (op : Int) (zs : List ByteArray) (c : Option ByteArray) (lid : ByteArray) (ln : NBase) (lz : List ByteArray) (lc : Option ByteArray) (rid : ByteArray) (rn : NBase) (rz : List ByteArray) (rc : Option ByteArray) (w : World) (e : Ending) (w' : World) : Prop :=
  ∃ nb lb rb n' ln' rn', e = .returned (.pointer (some ⟨nb, 0, none⟩)) ∧ w.heap.size < nb ∧ nb < lb ∧ lb < rb ∧ w'.heap[nb]? = some (.cells (binCells (.iface 40 (.pointer (some ⟨rb, 0, none⟩))) (.iface 40 (.pointer (some ⟨lb, 0, none⟩))) fo fn fc n' op) 85 (0, 0)) ∧
    w'.heap[lb]? = some (.cells (varCells lid ln') 43 (0, 0)) ∧ w'.heap[rb]? = some (.cells (varCells rid rn') 43 (0, 0)) ∧ NBnew w.heap.size w' n n' zs c ∧ NBnew w.heap.size w' ln ln' lz lc ∧ NBnew w.heap.size w' rn rn' rz rc ∧ Below w.heap.size w w'
set_option maxRecDepth 100000 in
theorem zzCloneBin (b lb rb : Nat) (fo : Option Addr) (fn fc : Nat) (n : NBase) (op : Int) (zs : List ByteArray) (c : Option ByteArray) (lid : ByteArray) (ln : NBase) (lz : List ByteArray) (lc : Option ByteArray) (rid : ByteArray) (rn : NBase) (rz : List ByteArray) (rc : Option ByteArray) (w : World)
    (hb : w.heap[b]? = some (.cells (binCells (.iface 40 (.pointer (some ⟨rb, 0, none⟩))) (.iface 40 (.pointer (some ⟨lb, 0, none⟩))) fo fn fc n op) 85 (0, 0))) (hn : NBok w n zs c)
    (hl : w.heap[lb]? = some (.cells (varCells lid ln) 43 (0, 0))) (hln : NBok w ln lz lc) (hr : w.heap[rb]? = some (.cells (varCells rid rn) 43 (0, 0))) (hrn : NBok w rn rz rc) :
    Calls Tryf.prog 37 #[.pointer (some ⟨b, 0, none⟩)] w (ZBin fo fn fc n op zs c lid ln lz lc rid rn rz rc w) := by
  have hlb := (Array.getElem?_eq_some_iff.1 hb).1
  have hll := (Array.getElem?_eq_some_iff.1 hl).1
  have hlr := (Array.getElem?_eq_some_iff.1 hr).1
  have bX : Below w.heap.size w (w.alloc (.cells #[.iface 81 (.pointer (some ⟨b, 0, none⟩))] 47 (0, 0))) := (Below.refl _ w).alloc (Nat.le_refl _) _
  have hM := heap_alloc_new w (.cells #[.iface 81 (.pointer (some ⟨b, 0, none⟩))] 47 (0, 0))
  have hXs : (w.alloc (.cells #[.iface 81 (.pointer (some ⟨b, 0, none⟩))] 47 (0, 0))).heap.size = w.heap.size + 1 := by simp
  have C1 := Lib.hid (clone_bin w.heap.size 0 b lb rb fo fn fc n op zs c lid ln lz lc rid rn rz rc (w.alloc (.cells #[.iface 81 (.pointer (some ⟨b, 0, none⟩))] 47 (0, 0))) ((cell_of_row _ _ 0 _ _ _ hM).trans rfl) (frozen_of hM 0)
    ((bX.block b hlb).trans hb) (by omega) (hn.below bX) ((bX.block lb hll).trans hl) (by omega) (hln.below bX) ((bX.block rb hlr).trans hr) (by omega) (hrn.below bX))
  have HM := Lib.hid hM
  have HXS := Lib.hid hXs
  have BX := Lib.hid bX
  clear hb hn hl hln hr hrn bX hM hXs
  go_enter Tryf.func37, Tryf.ntmps37
  go_wp2_with fail
  refine C1.out.mono ?_
  rintro e W1 ⟨rfl, lb', rb', n', ln', rn', h1, h2, h3, h4, h5, h6, h7, h8, h9⟩
  rw [HXS.out] at h1 h3 h6 h7 h8 h9
  have cM : W1.cell? ⟨w.heap.size, 0, none⟩ = some (.iface 81 (.pointer (some ⟨w.heap.size + 1, 0, none⟩))) := by
    rw [World.cell?_of_block (a := ⟨w.heap.size, 0, none⟩) h9.self]
    exact World.cell?_setCell_same _ _ _ ((cell_of_row _ _ 0 _ _ _ HM.out).trans rfl)
  have F : ZBin fo fn fc n op zs c lid ln lz lc rid rn rz rc w (.returned (.pointer (some ⟨w.heap.size + 1, 0, none⟩))) W1 :=
    ⟨w.heap.size + 1, lb', rb', n', ln', rn', rfl, by omega, h1, h2, h3, h4, h5, h6.lower (by omega), h7.lower (by omega), h8.lower (by omega), BX.out.trans (h9.below (Nat.le_refl _) (by rw [HXS.out]; omega))⟩
  have HF := Lib.hid F
  clear h1 h2 h3 h4 h5 h6 h7 h8 h9 F
  go_wp2
  go_ret
  exact HF.out

theorem binLeft (fb lb : Nat) (w : World) (hc : w.cell? ⟨fb, 1, none⟩ = some (.iface 40 (.pointer (some ⟨lb, 0, none⟩)))) :
    Calls Tryf.prog 38 #[.pointer (some ⟨fb, 0, none⟩)] w fun e w' => e = .returned (.pointer (some ⟨lb, 0, none⟩)) ∧ w = w' := by
  go_enter Tryf.func38, Tryf.ntmps38
  go_wp2
  go_ret
  exact ⟨rfl, rfl⟩
theorem binRight (fb lb : Nat) (w : World) (hc : w.cell? ⟨fb, 0, none⟩ = some (.iface 40 (.pointer (some ⟨lb, 0, none⟩)))) :
    Calls Tryf.prog 39 #[.pointer (some ⟨fb, 0, none⟩)] w fun e w' => e = .returned (.pointer (some ⟨lb, 0, none⟩)) ∧ w = w' := by
  go_enter Tryf.func39, Tryf.ntmps39
  go_wp2
  go_ret
  exact ⟨rfl, rfl⟩
def nb0 : NBase := ⟨none, 0, 0, none, none, 0, 0, none, ⟨#[]⟩, 0, 0, 0, 0⟩
theorem nb0_ok (w : World) : NBok w nb0 [] none := ⟨.isNil, rfl, by decide, rfl⟩
theorem newBin (op : Int) (lb rb : Nat) (w : World) :
    Calls Tryf.prog 36 #[.int .i64 op, .pointer (some ⟨lb, 0, none⟩), .pointer (some ⟨rb, 0, none⟩)] w fun e w' => e = .returned (.pointer (some ⟨w.heap.size, 0, none⟩)) ∧ w.alloc (.cells (binCells (.iface 40 (.pointer (some ⟨rb, 0, none⟩))) (.iface 40 (.pointer (some ⟨lb, 0, none⟩))) none 0 0 nb0 op) 85 (0, 0)) = w' := by
  go_enter Tryf.func36, Tryf.ntmps36
  go_wp2
  go_ret
  exact ⟨rfl, rfl⟩

end Go.Proofs.YtgmmbimbbkbjfaaFmt
