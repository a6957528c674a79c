/-
  Clone at a variable.
-/
import Derived.Test.YtgmmbimbbkbjfaaFmtCloneB
namespace Go.Proofs.YtgmmbimbbkbjfaaFmt
open Go Go.RowKit

theorem NBok.belowF {w w' : World} {n : NBase} {zs : List ByteArray} {c : Option ByteArray} (h : NBok w n zs c) (hb : Below w.heap.size w w') : NBok w' n zs c := by
  refine ⟨strs_keep (X := w) h.fv hb.size (fun p z hlt hq => (hb.cell hlt).trans hq) (Below.refl _ _), h.len, h.le, ?_⟩
  have hc := h.ctx
  cases c with
  | none => exact hc
  | some t =>
    obtain ⟨q, hq, hc⟩ := hc
    exact ⟨q, hq, (hb.cell (p := ⟨q, 0, none⟩) (World.block_lt_of_cell? w ⟨q, 0, none⟩ hc)).trans hc⟩
def CloneV (id : ByteArray) (n : NBase) (zs : List ByteArray) (c : Option ByteArray) (w : World) (e : Ending) (w' : World) : Prop :=
  ∃ nb n', e = .returned (.iface 40 (.pointer (some ⟨nb, 0, none⟩))) ∧ w.heap.size < nb ∧ w'.heap[nb]? = some (.cells (varCells id n') 43 (0, 0)) ∧ NBnew (w.heap.size + 1) w' n n' zs c ∧ Below w.heap.size w w'
set_option maxRecDepth 100000 in
theorem Clone_var (b : Nat) (id : ByteArray) (n : NBase) (zs : List ByteArray) (c : Option ByteArray) (w : World) (hb : w.heap[b]? = some (.cells (varCells id n) 43 (0, 0))) (hn : NBok w n zs c) :
    Calls Tryf.prog 28 #[.iface 40 (.pointer (some ⟨b, 0, none⟩))] w (CloneV id n zs c w) := by
  have hlb := (Array.getElem?_eq_some_iff.1 hb).1
  have bX : Below w.heap.size w (w.alloc (.cells #[.iface 40 (.pointer (some ⟨b, 0, none⟩))] 47 (0, 0))) := (Below.refl _ w).alloc (Nat.le_refl _) _
  have hM := heap_alloc_new w (.cells #[.iface 40 (.pointer (some ⟨b, 0, none⟩))] 47 (0, 0))
  have hXs : (w.alloc (.cells #[.iface 40 (.pointer (some ⟨b, 0, none⟩))] 47 (0, 0))).heap.size = w.heap.size + 1 := by simp
  have C1 := Lib.hid (clone_var w.heap.size 0 b id n zs c (w.alloc (.cells #[.iface 40 (.pointer (some ⟨b, 0, none⟩))] 47 (0, 0))) ((cell_of_row _ _ 0 _ _ _ hM).trans rfl) (frozen_of hM 0) ((bX.block b hlb).trans hb) (by omega) (hn.belowF bX))
  have HM := Lib.hid hM
  have HXS := Lib.hid hXs
  have BX := Lib.hid bX
  clear hb hn bX hM hXs
  go_enter Tryf.func28, Tryf.ntmps28
  go_wp2_with fail
  refine C1.out.mono ?_
  rintro e W1 ⟨rfl, n', h1, h2, h3⟩
  rw [HXS.out] at h1 h2 h3
  have cM : W1.cell? ⟨w.heap.size, 0, none⟩ = some (.iface 40 (.pointer (some ⟨w.heap.size + 1, 0, none⟩))) := by
    rw [World.cell?_of_block (a := ⟨w.heap.size, 0, none⟩) h3.self]
    exact World.cell?_setCell_same _ _ _ ((cell_of_row _ _ 0 _ _ _ HM.out).trans rfl)
  have F : CloneV id n zs c w (.returned (.iface 40 (.pointer (some ⟨w.heap.size + 1, 0, none⟩)))) W1 :=
    ⟨w.heap.size + 1, n', rfl, by omega, h1, h2, BX.out.trans (h3.kept.below (fun _ e => by subst e; exact Nat.le_refl _) (by rw [HXS.out]; omega))⟩
  have HF := Lib.hid F
  clear h1 h2 h3 F
  go_wp2
  go_ret
  exact HF.out

end Go.Proofs.YtgmmbimbbkbjfaaFmt
