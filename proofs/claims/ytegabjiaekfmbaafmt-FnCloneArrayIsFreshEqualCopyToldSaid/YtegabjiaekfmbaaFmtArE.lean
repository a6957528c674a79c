/-
  n008_147: buildArray.
-/
import Derived.Test.YtegabjiaekfmbaaFmtArD
import Derived.Laws.MakeOwn
import Derived.Deep.Cut
namespace Go.Proofs.YtegabjiaekfmbaaFmt
open Go Go.RowKit
namespace Arr

def nz : NBase := ⟨none, 0, 0, none, none, 0, 0, none, ⟨#[]⟩, 0, 0, 0, 0⟩
/-- A list of free variables: nil, or in new memory. -/
def FreeSt (B : Nat) (W : World) (v : Value) (zs : List ByteArray) : Prop := (v = .slice none 0 0 ∧ zs = []) ∨ FvNew B W v zs
theorem FreeSt.keep {B : Nat} {W W' : World} {v : Value} {zs : List ByteArray} (h : FreeSt B W v zs) (hk : ∀ k, v.ownBlock = some k → W'.heap[k]? = W.heap[k]?) : FreeSt B W' v zs := by
  rcases h with h | ⟨g, cap, rfl, hg, ho⟩
  · exact .inl h
  · exact .inr ⟨g, cap, rfl, hg, ownsRow_same ho hk⟩
theorem FreeSt.kind {B : Nat} {W : World} {v : Value} {zs : List ByteArray} (h : FreeSt B W v zs) {k : Nat} (hk : v.ownBlock = some k) : ∃ c fr, W.heap[k]? = some (.cells c 51 fr) := by
  rcases h with ⟨rfl, _⟩ | ⟨g, cap, rfl, hg, ho⟩
  · cases hk
  · exact Lib.ownsRow_kind ho k hk
/-- .. while no block of identifiers is written. -/
theorem FreeSt.keepT {B : Nat} {W W' : World} {v : Value} {zs : List ByteArray} (h : FreeSt B W v zs) (hk : ∀ (k : Nat) (c : Array Value) (fr : Nat × Nat), W.heap[k]? = some (.cells c 51 fr) → W'.heap[k]? = W.heap[k]?) : FreeSt B W' v zs :=
  h.keep fun k e => by
    obtain ⟨c, fr, hc⟩ := h.kind e
    exact hk k c fr hc
theorem FreeSt.strs {B : Nat} {W : World} {v : Value} {zs : List ByteArray} (h : FreeSt B W v zs) (hl : zs.length ≤ 1048576) : StrsAt W W.heap.size v zs := by
  rcases h with ⟨rfl, rfl⟩ | ⟨g, cap, rfl, hg, ho⟩
  · exact .isNil
  · refine .isAt g 0 cap zs ?_ (by unfold maxLen; omega) (fun i hi => ?_)
    · obtain ⟨c, fz, hc⟩ := Lib.ownsRow_kind ho g rfl
      exact (Array.getElem?_eq_some_iff.1 hc).1
    · have := ho.cellAt i (by omega)
      rw [Nat.zero_add, this]
      simp [List.getElem?_eq_getElem hi]
def elts (q : Nat) (vb : Nat → Nat) : List Value := (List.range q).flatMap fun i => [.iface 57 (.pointer (some ⟨vb i, 0, none⟩)), .slice none 0 0]
theorem elts_succ (q : Nat) (vb : Nat → Nat) : elts (q + 1) vb = elts q vb ++ [.iface 57 (.pointer (some ⟨vb q, 0, none⟩)), .slice none 0 0] := by
  unfold elts
  rw [List.range_succ, List.flatMap_append]
  simp
theorem elts_congr {q : Nat} {vb vb' : Nat → Nat} (h : ∀ i, i < q → vb i = vb' i) : elts q vb = elts q vb' := by
  unfold elts
  induction q with
  | zero => rfl
  | succ q ih =>
    rw [List.range_succ, List.flatMap_append, List.flatMap_append, ih (fun i hi => h i (by omega))]
    simp [h q (by omega)]
def ptrs (q : Nat) (vb : Nat → Nat) : List Value := (List.range q).map fun i => .pointer (some ⟨vb i, 0, none⟩)
theorem ptrs_len (q : Nat) (vb : Nat → Nat) : (ptrs q vb).length = q := by simp [ptrs]
theorem ptrs_get (n : Nat) (vb : Nat → Nat) (i : Nat) (hi : i < n) : (ptrs n vb)[i]? = some (.pointer (some ⟨vb i, 0, none⟩)) := by simp [ptrs, hi]
theorem ptrs_take (q n : Nat) (vb : Nat → Nat) (h : q ≤ n) : (ptrs n vb).take q = ptrs q vb := by
  unfold ptrs
  rw [← List.map_take, List.take_range, Nat.min_eq_left h]
theorem ptrs_congr {q : Nat} {vb vb' : Nat → Nat} (h : ∀ i, i < q → vb i = vb' i) : ptrs q vb = ptrs q vb' := by
  unfold ptrs
  refine List.map_congr_left fun i hi => ?_
  rw [h i (List.mem_range.1 hi)]

theorem fill_step (xs : List Value) (n k : Nat) (hz : xs.length = n) (hk : k < n) (z u : Value) (hu : xs[k]? = some u) : (xs.take k ++ List.replicate (n - k) z).set k u = xs.take (k + 1) ++ List.replicate (n - (k + 1)) z := by
  have hl : (xs.take k).length = k := by rw [List.length_take]; omega
  have hr : List.replicate (n - k) z = z :: List.replicate (n - (k + 1)) z := by
    rw [show n - k = (n - (k + 1)) + 1 by omega, List.replicate_succ]
  have hu' : xs[k]'(by omega) = u := by
    rw [List.getElem?_eq_getElem (by omega)] at hu
    exact Option.some.inj hu
  rw [List.set_append_right _ _ (by omega), hl, Nat.sub_self, hr, List.set_cons_zero, List.take_succ_eq_append_getElem (by omega), hu']
  simp
/-- A node as it was built. -/
structure NodeOk (B : Nat) (W : World) (b : Nat) (id : ByteArray) (x : NBase) (cv : Option Addr) (md : Nat) (fz : List ByteArray) : Prop where
  row : W.heap[b]? = some (.cells (varCells id x) 60 (0, 0))
  eq : x = { nz with ca := cv, va := x.va, vn := x.vn, vc := x.vc }
  free : FreeSt B W (.slice x.va x.vn x.vc) (freeAt md id fz)
  nil : md = 0 → x.va = none
  ge : B ≤ b
/-- The array and its nodes on their way: q of n are in. -/
structure ArrSt (w W : World) (A O n q m : Nat) (tc : Bool) (va : Option Addr) (vc : Nat) (ca cv : Option Addr) (fm : Int) (zs fz : List ByteArray) (vb : Nat → Nat) (nb : Nat → NBase) : Prop where
  arr : ∃ ev, W.heap[A]? = some (.cells (arrCells ev { nz with ca := ca, va := va, vn := m, vc := vc } tc) 47 (0, 0)) ∧ W.ownsRow w.heap.size 56 2 ev q (elts q vb)
  orig : W.ownsRow w.heap.size 57 1 (.slice (some ⟨O, 0, none⟩) n n) n (ptrs q vb ++ List.replicate (n - q) (.pointer none))
  node : ∀ i, i < q → NodeOk w.heap.size W (vb i) (zs.getD i ByteArray.empty) (nb i) cv (modeAt fm i) fz
  free : FreeSt w.heap.size W (.slice va m vc) fz
  below : Below w.heap.size w W
  ge : w.heap.size ≤ A
  geO : w.heap.size ≤ O
theorem NodeOk.keepT {B : Nat} {W W' : World} {b : Nat} {id : ByteArray} {x : NBase} {cv : Option Addr} {md : Nat} {fz : List ByteArray} (h : NodeOk B W b id x cv md fz) (hk : ∀ (k : Nat) (c : Array Value) (t : TypeId) (fr : Nat × Nat), W.heap[k]? = some (.cells c t fr) → t = 51 ∨ t = 60 → W'.heap[k]? = W.heap[k]?) : NodeOk B W' b id x cv md fz :=
  ⟨(hk b _ _ _ h.row (.inr rfl)).trans h.row, h.eq, h.free.keepT (fun k c fr hc => hk k c _ fr hc (.inl rfl)), h.nil, h.ge⟩
theorem NodeOk.below {B : Nat} {W W' : World} {b : Nat} {id : ByteArray} {x : NBase} {cv : Option Addr} {md : Nat} {fz : List ByteArray} (h : NodeOk B W b id x cv md fz) (hb : Below W.heap.size W W') : NodeOk B W' b id x cv md fz :=
  h.keepT fun k _ _ _ hk _ => hb.block k (Array.getElem?_eq_some_iff.1 hk).1
/-- What one node more leaves: blocks of other kinds stay. -/
theorem ArrSt.stays {w W : World} {A O n q m : Nat} {tc : Bool} {va : Option Addr} {vc : Nat} {ca cv : Option Addr} {fm : Int} {zs fz : List ByteArray} {vb : Nat → Nat} {nb : Nat → NBase} {Wx Wz : World} {N : Nat} {C : Array Value} {ev : Value} (h : ArrSt w W A O n q m tc va vc ca cv fm zs fz vb nb) (hb : Below W.heap.size W Wx)
    (hA : W.heap[A]? = some (.cells C 47 (0, 0))) (hown : W.ownsRow w.heap.size 56 2 ev q (elts q vb))
    (hz3 : Kept (fun i => i = A ∨ ev.ownBlock = some i) (Wx.setCell ⟨O, q, none⟩ (.pointer (some ⟨N, 0, none⟩))) Wz) :
    ∀ (k : Nat) (c : Array Value) (t : TypeId) (fr : Nat × Nat), Wx.heap[k]? = some (.cells c t fr) → t = 51 ∨ t = 60 ∨ t = 9 → Wz.heap[k]? = Wx.heap[k]? := by
  have hsx := hb.size
  have hsy : (Wx.setCell ⟨O, q, none⟩ (.pointer (some ⟨N, 0, none⟩))).heap.size = Wx.heap.size := by simp [World.setCell]
  obtain ⟨cO, fO, hcO⟩ := Lib.ownsRow_kind h.orig O rfl
  have hcO' : Wx.heap[O]? = some (.cells cO 57 fO) := (hb.block O (Array.getElem?_eq_some_iff.1 hcO).1).trans hcO
  have hAx : Wx.heap[A]? = some (.cells C 47 (0, 0)) := (hb.block A (Array.getElem?_eq_some_iff.1 hA).1).trans hA
  intro k c t fr hk ht
  have hlk : k < Wx.heap.size := (Array.getElem?_eq_some_iff.1 hk).1
  have h1 : k ≠ O := fun e => by
    rw [e, hcO'] at hk
    cases hk
    rcases ht with ht | ht | ht <;> exact absurd ht (by decide)
  have h2 : k ≠ A := fun e => by
    rw [e, hAx] at hk
    cases hk
    rcases ht with ht | ht | ht <;> exact absurd ht (by decide)
  have h3 : ev.ownBlock ≠ some k := fun e => by
    obtain ⟨c3, f3, hc3⟩ := Lib.ownsRow_kind hown k e
    have hc3' := (hb.block k (Array.getElem?_eq_some_iff.1 hc3).1).trans hc3
    rw [hc3'] at hk
    cases hk
    rcases ht with ht | ht | ht <;> exact absurd ht (by decide)
  exact (hz3.block k (by omega) (fun e => e.elim h2 h3)).trans (Below.heap_setCell Wx _ _ k h1)
/-- One node more: it stands in new memory (Wx), its pointer is laid into the list (Wy), it is appended (Wz). -/
theorem ArrSt.step {w W : World} {A O n q m : Nat} {tc : Bool} {va : Option Addr} {vc : Nat} {ca cv : Option Addr} {fm : Int} {zs fz : List ByteArray} {vb : Nat → Nat} {nb : Nat → NBase} {Wx Wz : World} {N : Nat} {x : NBase} {C : Array Value} {ev : Value} {g cap : Nat} (h : ArrSt w W A O n q m tc va vc ca cv fm zs fz vb nb) (hq : q < n) (hb : Below W.heap.size W Wx) (hx : NodeOk w.heap.size Wx N (zs.getD q ByteArray.empty) x cv (modeAt fm q) fz)
    (hA : W.heap[A]? = some (.cells C 47 (0, 0))) (hC : C = arrCells ev { nz with ca := ca, va := va, vn := m, vc := vc } tc) (hown : W.ownsRow w.heap.size 56 2 ev q (elts q vb))
    (hz1 : Wz.heap[A]? = some (.cells (C.setIfInBounds 0 (.slice (some ⟨g, 0, none⟩) (q + 1) cap)) 47 (0, 0))) (hz2 : Wz.ownsRow w.heap.size 56 2 (.slice (some ⟨g, 0, none⟩) (q + 1) cap) (q + 1) (elts q vb ++ [.iface 57 (.pointer (some ⟨N, 0, none⟩)), .slice none 0 0]))
    (hz3 : Kept (fun i => i = A ∨ ev.ownBlock = some i) (Wx.setCell ⟨O, q, none⟩ (.pointer (some ⟨N, 0, none⟩))) Wz) :
    ArrSt w Wz A O n (q + 1) m tc va vc ca cv fm zs fz (fun i => if i = q then N else vb i) (fun i => if i = q then x else nb i) := by
  have hsx := hb.size
  have hsy : (Wx.setCell ⟨O, q, none⟩ (.pointer (some ⟨N, 0, none⟩))).heap.size = Wx.heap.size := by simp [World.setCell]
  have K1 := h.stays hb hA hown hz3
  obtain ⟨cO, fO, hcO⟩ := Lib.ownsRow_kind h.orig O rfl
  have hcO' : Wx.heap[O]? = some (.cells cO 57 fO) := (hb.block O (Array.getElem?_eq_some_iff.1 hcO).1).trans hcO
  have hAx : Wx.heap[A]? = some (.cells C 47 (0, 0)) := (hb.block A (Array.getElem?_eq_some_iff.1 hA).1).trans hA
  have K : ∀ (k : Nat) (c : Array Value) (t : TypeId) (fr : Nat × Nat), Wx.heap[k]? = some (.cells c t fr) → t = 51 ∨ t = 60 → Wz.heap[k]? = Wx.heap[k]? := fun k c t fr hk ht => K1 k c t fr hk (ht.elim .inl (fun h => .inr (.inl h)))
  have hev : ∀ k, ev.ownBlock = some k → w.heap.size ≤ k := fun k e => by
    rcases hown.2 with ⟨hv, _⟩ | ⟨g', cap', cur, hv, hg', _⟩
    · rw [hv] at e; cases e
    · rw [hv] at e; cases e; exact hg'
  refine ⟨⟨.slice (some ⟨g, 0, none⟩) (q + 1) cap, ?_, ?_⟩, ?_, fun i hi => ?_, ?_, ?_, h.ge, h.geO⟩
  · rw [hz1, hC]; simp [arrCells]
  · have e : elts (q + 1) (fun i => if i = q then N else vb i) = elts q vb ++ [.iface 57 (.pointer (some ⟨N, 0, none⟩)), .slice none 0 0] := by
      rw [elts_succ, elts_congr (vb' := vb) (fun i hi => if_neg (by omega))]
      simp
    rw [e]
    exact hz2
  · have hs := (ownsRow_same (w' := Wx) h.orig (fun k e => by
      obtain rfl : O = k := by simpa [Value.ownBlock] using e
      exact hb.block O (Array.getElem?_eq_some_iff.1 hcO).1)).stored q (.pointer (some ⟨N, 0, none⟩))
    have e := fill_step (ptrs n (fun i => if i = q then N else vb i)) n q (ptrs_len _ _) hq (.pointer none) (.pointer (some ⟨N, 0, none⟩)) (by rw [ptrs_get _ _ q hq]; simp)
    rw [ptrs_take q n _ (by omega), ptrs_take (q + 1) n _ (by omega), ptrs_congr (vb' := vb) (q := q) (fun i hi => if_neg (by omega))] at e
    rw [e] at hs
    refine ownsRow_same hs.1 fun k e => ?_
    obtain rfl : O = k := by simpa [Value.ownBlock] using e
    refine hz3.block O (by have := (Array.getElem?_eq_some_iff.1 hcO').1; omega) (fun e => ?_)
    rcases e with e | e
    · rw [e, hAx] at hcO'; cases hcO'
    · obtain ⟨c3, f3, hc3⟩ := Lib.ownsRow_kind hown O e
      rw [hc3] at hcO
      cases hcO
  · by_cases e : i = q
    · subst e
      simp only [if_true]
      exact hx.keepT K
    · simp only [if_neg e]
      exact ((h.node i (by omega)).below hb).keepT K
  · refine (h.free.keep (W' := Wx) fun k e => ?_).keepT (fun k c fr hc => K k c _ fr hc (.inl rfl))
    obtain ⟨c, fr, hc⟩ := h.free.kind e
    exact hb.block k (Array.getElem?_eq_some_iff.1 hc).1
  · refine h.below.trans ((hb.mono h.below.size).trans (((Below.refl _ Wx).setCell (by show w.heap.size ≤ O; exact h.geO) _).trans (hz3.below (B := w.heap.size) (fun k e => ?_) (by have := h.below.size; omega))))
    rcases e with e | e
    · rw [e]; exact h.ge
    · exact hev k e

end Arr
end Go.Proofs.YtegabjiaekfmbaaFmt
