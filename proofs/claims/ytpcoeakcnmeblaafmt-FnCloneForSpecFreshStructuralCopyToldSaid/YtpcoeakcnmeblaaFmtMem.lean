/-
  Memory: an owned row or a buffer stays while its own blocks stay; small laws on 'grownBy'. No program is named here.
-/
import Derived.WalkKit
import Derived.Lib.Buffer
import Derived.Lib.BufferOld
import Derived.Lib.BufferOwn
import Derived.Lib.OthersKept
import Derived.Lib.OwnKind
import Derived.Lib.HexFns
import Derived.Lib.Hide
namespace Go.Proofs.YtpcoeakcnmeblaaFmt
open Go Go.RowKit

theorem ownsRow_same {w w' : World} {base : Nat} {e : TypeId} {size : Nat} {v : Value} {n : Nat} {xs : List Value} (h : w.ownsRow base e size v n xs)
    (hk : ∀ g, v.ownBlock = some g → w'.heap[g]? = w.heap[g]?) : w'.ownsRow base e size v n xs := by
  obtain ⟨hl, h⟩ := h
  refine ⟨hl, ?_⟩
  rcases h with h | ⟨g, cap, cur, rfl, hb, hg, h1, h2, h3, h4⟩
  · exact .inl h
  · exact .inr ⟨g, cap, cur, rfl, hb, (hk g rfl).trans hg, h1, h2, h3, h4⟩

/-- The buffer's writers keep a row whose elements are not bytes. -/
theorem ownsRow_others {w w' : World} {base : Nat} {e e5 T : TypeId} {size : Nat} {v : Value} {n : Nat} {xs : List Value} {b : Nat} {cs : Array Value} {fr : Nat × Nat} (h : w.ownsRow base e size v n xs)
    (hO : Lib.OthersKept e5 (some b) w w') (hb : w.heap[b]? = some (.cells cs T fr)) (hT : T ≠ e) (h5 : e ≠ e5) : w'.ownsRow base e size v n xs := by
  refine ownsRow_same h fun g hg => ?_
  obtain ⟨c, fz, hc⟩ := Lib.ownsRow_kind h g hg
  rw [hc]
  refine hO g _ hc (fun e1 => ?_) (fun c2 fz2 e2 => h5 ?_)
  · cases e1
    rw [hc] at hb
    cases hb
    exact hT rfl
  · cases e2
    rfl

theorem isBuffer_block {T e : TypeId} {B b : Nat} {bs : List Value} {w : World} (h : Lib.IsBuffer T e B b bs w) : ∃ cs fr, w.heap[b]? = some (.cells cs T fr) := by
  obtain ⟨_, v, lr, hb, _⟩ := h
  exact ⟨_, _, hb⟩

/-- A buffer stays a buffer where a row of another kind is written. -/
theorem isBuffer_grown {T e : TypeId} {B b : Nat} {bs : List Value} {w w' : World} {row : Option Nat} (h : Lib.IsBuffer T e B b bs w) (hg : w.grownBy w' row)
    (hrow : ∀ g, row = some g → ∃ c fz t, w.heap[g]? = some (.cells c t fz) ∧ t ≠ T ∧ t ≠ e) : Lib.IsBuffer T e B b bs w' := by
  obtain ⟨hB, v, lr, hb, ho, hne⟩ := h
  have hbl : b < w.heap.size := (Array.getElem?_eq_some_iff.1 hb).1
  have hbr : some b ≠ row := fun e1 => by
    obtain ⟨c, fz, t, hc, h1, _⟩ := hrow b e1.symm
    rw [hb] at hc
    cases hc
    exact h1 rfl
  refine ⟨hB, v, lr, (hg.block b hbl hbr).trans hb, ownsRow_same ho fun g hvg => ?_, hne⟩
  obtain ⟨c, fz, hc⟩ := Lib.ownsRow_kind ho g hvg
  refine hg.block g (Array.getElem?_eq_some_iff.1 hc).1 fun e1 => ?_
  obtain ⟨c2, fz2, t, hc2, _, h2⟩ := hrow g e1.symm
  rw [hc] at hc2
  cases hc2
  exact h2 rfl

theorem below_of_grown {w w' : World} {B b : Nat} (h : w.grownBy w' (some b)) (hB : B ≤ b) (hs : B ≤ w.heap.size) : Below B w w' :=
  ⟨h.os, h.tape, h.output, h.size, fun k hk => by
    rcases Nat.lt_or_ge k w.heap.size with h1 | h1
    · exact h.block k h1 (fun e => by cases e; omega)
    · exact absurd hk (by omega)⟩

theorem drewN_below {B : Nat} {a w : World} (h : Below B a w) (n : Nat) : Below B a (w.drewN n) := ⟨h.os, h.tape, h.output, h.size, h.block⟩
theorem drewN_heap (w : World) (n : Nat) : (w.drewN n).heap = w.heap := rfl
theorem grown_drewN {a w : World} {row : Option Nat} (h : a.grownBy w row) (n : Nat) : a.grownBy (w.drewN n) row := ⟨h.os, h.tape, h.output, h.size, h.block⟩
theorem grown_of_below {a w : World} {row : Option Nat} (h : Below a.heap.size a w) : a.grownBy w row := ⟨h.os, h.tape, h.output, h.size, fun k hk _ => h.block k hk⟩

end Go.Proofs.YtpcoeakcnmeblaaFmt
