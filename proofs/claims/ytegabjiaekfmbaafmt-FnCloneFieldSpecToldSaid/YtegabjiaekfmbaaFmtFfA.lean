/-
  What both laws on cloneField use.
-/
import Derived.Test.YtegabjiaekfmbaaFmtFnE
import Derived.Test.YtegabjiaekfmbaaFmtHeads
import Derived.Test.YtegabjiaekfmbaaFmtIdsA
import Derived.Laws.Concat
import Derived.Laws.MakeOwn
import Derived.BigRegion
import Derived.Deep.DeepCutAuto
import Derived.Deep.QuietTactic
import Derived.BigQuiet
namespace Go.Proofs.YtegabjiaekfmbaaFmt
open Go Go.RowKit

def n0 : NBase := ⟨none, 0, 0, none, none, 0, 0, none, ⟨#[]⟩, 0, 0, 0, 0⟩
theorem n0_ok (w : World) : NBok w n0 [] none := ⟨.isNil, rfl, by decide, rfl⟩
theorem strs_up {w w' : World} {B B2 : Nat} {v : Value} {zs : List ByteArray} (h : StrsAt w B v zs) (hb : Below B w w') (hB : B ≤ B2) : StrsAt w' B2 v zs :=
  strs_keep (X := w) h hB (fun p z hlt hp => (hb.cell hlt).trans hp) (Below.refl _ _)
theorem parMade {w : World} {g n : Nat} (h : w.ownsRow g 82 11 (.slice (some ⟨g, 0, none⟩) n n) n (madeCells (Value.agg #[.slice none 0 0, .string ⟨#[]⟩, .slice none 0 0, .slice none 0 0, .nilIface, .pointer none, .string ⟨#[]⟩, .int .i64 0, .int .i64 0, .int .i64 0, .int .i64 0]).cells (n * 11)).toList) : ParRow w g n (fun _ => ⟨#[]⟩) := by
  rcases h.2 with ⟨hv, _⟩ | ⟨g', cap, cur, hv, _, hh, _⟩
  · cases hv
  · cases hv
    refine ⟨cur, hh, fun i j hi hj => ?_⟩
    have h0 := h.cellAt (i * 11 + j) (by omega)
    rw [cell_of_row _ _ _ _ _ _ hh] at h0
    have e : (i * 11 + j) % 11 = j := by omega
    have hk : i * 11 + j < n * 11 := by omega
    rw [h0]
    simp only [madeCells, Value.cells, Array.toList_map, Array.toList_range, List.getElem?_map, List.getElem?_range hk, Option.map_some, List.size_toArray, List.length_cons, List.length_nil, Nat.zero_add, Nat.reduceAdd, e]
    match j, hj with
    | 0, _ => rfl
    | 1, _ => rfl
    | 2, _ => rfl
    | 3, _ => rfl
    | 4, _ => rfl
    | 5, _ => rfl
    | 6, _ => rfl
    | 7, _ => rfl
    | 8, _ => rfl
    | 9, _ => rfl
    | 10, _ => rfl
theorem neqVar (a : Addr) (w : World) : (binOp .neq 57 (.pointer (some a)) (.pointer (some a))).run Tryf.prog w = .ok (.bool false) w := by
  obtain ⟨t, ht, _⟩ := info_size (P := Tryf.prog) (T := 60) (n := 10) (by kernel_rfl)
  exact Lib.run_neq_ptr_same (w := w) a Tryf.underlying57 ht
/-- A name that has been turned, whatever it holds by now. -/
def VarSome (w : World) (b : Nat) (n : NBase) : Prop := ∃ s, w.heap[b]? = some (.cells (varCells s n) 60 (0, 0))
theorem VarSome.set {w : World} {b : Nat} {n : NBase} (h : VarSome w b n) (c : Nat) (t : ByteArray) : VarSome (w.setCell ⟨c, 0, none⟩ (.string t)) b n := by
  obtain ⟨s, h⟩ := h
  by_cases e : c = b
  · subst e
    exact ⟨t, (Lib.heap_setCell_same h _).trans (by simp [varCells])⟩
  · exact ⟨s, (Below.heap_setCell w ⟨c, 0, none⟩ _ b (fun e2 => e e2.symm)).trans h⟩

end Go.Proofs.YtegabjiaekfmbaaFmt
