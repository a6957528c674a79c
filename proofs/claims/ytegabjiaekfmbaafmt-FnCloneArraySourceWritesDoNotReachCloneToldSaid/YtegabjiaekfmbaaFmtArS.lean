/-
  n008_147: the source while it is overwritten.
-/
import Derived.Test.YtegabjiaekfmbaaFmtArM
namespace Go.Proofs.YtegabjiaekfmbaaFmt
open Go Go.RowKit
namespace Arr

/-- Which cells the law overwrites. -/
def Wr (T : TypeId) (i : Nat) : Prop := (T = 47 ∧ i = 11) ∨ (T = 60 ∧ i = 0) ∨ T = 51 ∨ T = 9 ∨ T = 56
/-- The source's blocks keep their shape and the cells that are not overwritten; the clone's blocks stay. -/
structure Src (w W W2 Wc : World) : Prop where
  shape : ∀ (k : Nat) (C : Array Value) (T : TypeId) (fr : Nat × Nat), W.heap[k]? = some (.cells C T fr) → ∃ C', Wc.heap[k]? = some (.cells C' T fr) ∧ C'.size = C.size ∧ ∀ i, ¬ Wr T i → C'[i]? = C[i]?
  clone : ∀ k, W.heap.size ≤ k → k < W2.heap.size → Wc.heap[k]? = W2.heap[k]?
  below : Below w.heap.size w Wc
theorem Src.start {w W W2 : World} (hb : Below w.heap.size w W) (h2 : Below W.heap.size W W2) : Src w W W2 W2 :=
  ⟨fun k C _ _ hk => ⟨C, (h2.block k (Array.getElem?_eq_some_iff.1 hk).1).trans hk, rfl, fun _ _ => rfl⟩, fun _ _ _ => rfl, hb.trans (h2.mono hb.size)⟩
theorem Src.drewN {w W W2 Wc : World} (h : Src w W W2 Wc) (n : Nat) : Src w W W2 (Wc.drewN n) := ⟨h.shape, h.clone, drewN_below h.below n⟩
theorem Src.drew {w W W2 Wc : World} (h : Src w W W2 Wc) : Src w W W2 Wc.drew := ⟨h.shape, h.clone, drew_below h.below⟩
theorem Src.set {w W W2 Wc : World} (h : Src w W W2 Wc) {b o : Nat} {C : Array Value} {T : TypeId} {fr : Nat × Nat} (hb : W.heap[b]? = some (.cells C T fr)) (hw : Wr T o) (hge : w.heap.size ≤ b) (v : Value) : Src w W W2 (Wc.setCell ⟨b, o, none⟩ v) := by
  have hlt := (Array.getElem?_eq_some_iff.1 hb).1
  refine ⟨fun k C2 T2 fr2 hk => ?_, fun k h1 h2 => (Below.heap_setCell Wc _ _ k (by show k ≠ b; omega)).trans (h.clone k h1 h2), h.below.setCell (by show w.heap.size ≤ b; exact hge) _⟩
  obtain ⟨C3, h3, h4, h5⟩ := h.shape k C2 T2 fr2 hk
  by_cases e : k = b
  · subst e
    rw [hb] at hk
    cases hk
    refine ⟨C3.setIfInBounds o v, Lib.heap_setCell_same h3 v, by simpa using h4, fun i hi => ?_⟩
    have hne : o ≠ i := fun e => hi (by rw [← e]; exact hw)
    rw [Array.getElem?_setIfInBounds_ne hne]
    exact h5 i hi
  · exact ⟨C3, (Below.heap_setCell Wc _ _ k e).trans h3, h4, h5⟩
theorem Src.cell {w W W2 Wc : World} (h : Src w W W2 Wc) {b : Nat} {C : Array Value} {T : TypeId} {fr : Nat × Nat} (hb : W.heap[b]? = some (.cells C T fr)) (i : Nat) (hi : ¬ Wr T i) : Wc.cell? ⟨b, i, none⟩ = C[i]? := by
  obtain ⟨C3, h3, _, h5⟩ := h.shape b C T fr hb
  exact (cell_of_row _ _ i _ _ _ h3).trans (h5 i hi)
theorem Src.has {w W W2 Wc : World} (h : Src w W W2 Wc) {b : Nat} {C : Array Value} {T : TypeId} (hb : W.heap[b]? = some (.cells C T (0, 0))) (i : Nat) (hi : i < C.size) : (∃ u, Wc.cell? ⟨b, i, none⟩ = some u) ∧ Wc.frozen? ⟨b, i, none⟩ = false := by
  obtain ⟨C3, h3, h4, _⟩ := h.shape b C T _ hb
  exact ⟨⟨_, (cell_of_row _ _ i _ _ _ h3).trans (Array.getElem?_eq_getElem (by omega))⟩, frozen_of h3 i⟩

end Arr
end Go.Proofs.YtegabjiaekfmbaaFmt
