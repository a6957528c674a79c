/-
  FnCloneCommaSeparatedExprsSpec: rows that make lays.
-/
import Derived.Test.YtegabjiaekfmbaaFmtSpB
import Derived.Laws.Concat
import Derived.Lib.Builder
import Derived.Deep.Cut
import Derived.Deep.RegionHeld3
import Derived.Deep.DrawnRows
import Derived.Deep.QuietTactic
import Derived.BigQuiet
namespace Go.Proofs.YtegabjiaekfmbaaFmt.fnCloneCommaSeparatedExprsSpec
open Go Go.RowKit
attribute [local go_sem ↓] Go.wp_at_zero Go.wp_at_succ

theorem infoVarP : (Tryf.prog.info? 57).map (fun i => (i.zero, i.size, i.bytes)) = some (some (.pointer none), 1, 8) := by kernel_rfl
theorem cseMade {w : World} {g n : Nat} (h : w.ownsRow g 56 2 (.slice (some ⟨g, 0, none⟩) n n) n (madeCells (Value.agg #[.nilIface, .slice none 0 0]).cells (n * 2)).toList) : CseRow w g n (fun _ => .nilIface) (fun _ => .slice none 0 0) := by
  rcases h.2 with ⟨hv, _⟩ | ⟨g', cap, cur, hv, _, hh, _⟩
  · cases hv
  · cases hv
    refine ⟨cur, hh, fun i hi => ?_⟩
    have h0 := h.cellAt (i * 2) (by omega)
    have h1 := h.cellAt (i * 2 + 1) (by omega)
    rw [cell_of_row _ _ _ _ _ _ hh] at h0 h1
    rw [h0, h1]
    constructor
    · simp [madeCells, Value.cells, List.getElem?_map, List.getElem?_range (show i * 2 < n * 2 by omega)]
    · have e : (i * 2 + 1) % 2 = 1 := by omega
      simp [madeCells, Value.cells, List.getElem?_map, List.getElem?_range (show i * 2 + 1 < n * 2 by omega), e]
theorem varMade {w : World} {g n : Nat} (h : w.ownsRow g 57 1 (.slice (some ⟨g, 0, none⟩) n n) n (madeCells (Value.pointer none).cells (n * 1)).toList) : ∃ D : Array Value, w.heap[g]? = some (.cells D 57 (0, 0)) ∧ ∀ i, i < n → D[i]? = some (.pointer none) := by
  rcases h.2 with ⟨hv, _⟩ | ⟨g', cap, cur, hv, _, hh, _⟩
  · cases hv
  · cases hv
    refine ⟨cur, hh, fun i hi => ?_⟩
    have h0 := h.cellAt i (by omega)
    rw [cell_of_row _ _ _ _ _ _ hh] at h0
    rw [h0]
    have := toList_madeCells_one (.pointer none) n
    simp only [Value.cells, Nat.mul_one] at this ⊢
    rw [this, List.getElem?_replicate, if_pos hi]


end Go.Proofs.YtegabjiaekfmbaaFmt.fnCloneCommaSeparatedExprsSpec
