/-
  FnCloneCommaSeparatedExprsSpec: free variables in rows of their own; the list that the law makes.
-/
import Derived.Test.YtegabjiaekfmbaaFmtCsB
import Derived.Test.YtegabjiaekfmbaaFmtIdsA
import Derived.OwnWalk
namespace Go.Proofs.YtegabjiaekfmbaaFmt.fnCloneCommaSeparatedExprsSpec
open Go Go.RowKit

/-- A list of identifiers: nil, or a row of its own. -/
def FvOwn (w : World) (v : Value) (zs : List ByteArray) : Prop := (v = .slice none 0 0 ∧ zs = []) ∨ ∃ g cap, v = .slice (some ⟨g, 0, none⟩) zs.length cap ∧ w.ownsRow 0 51 1 v zs.length (zs.map Value.string)
theorem base0 {w : World} {B n : Nat} {e : TypeId} {size : Nat} {v : Value} {xs : List Value} (h : w.ownsRow B e size v n xs) : w.ownsRow 0 e size v n xs := by
  refine ⟨h.1, ?_⟩
  rcases h.2 with h | ⟨g, cap, cur, hv, _, h2⟩
  · exact .inl h
  · exact .inr ⟨g, cap, cur, hv, Nat.zero_le _, h2⟩
theorem FvOwn.keepT {w w' : World} {v : Value} {zs : List ByteArray} (h : FvOwn w v zs) (hk : ∀ (i : Nat) (c : Array Value) (fz : Nat × Nat), w.heap[i]? = some (Obj.cells c 51 fz) → w'.heap[i]? = w.heap[i]?) : FvOwn w' v zs := by
  rcases h with h | ⟨g, cap, rfl, ho⟩
  · exact .inl h
  · refine .inr ⟨g, cap, rfl, ownsRow_same ho fun g' hg' => ?_⟩
    obtain rfl : g = g' := by simpa [Value.ownBlock] using hg'
    obtain ⟨c, fz, hc⟩ := Lib.ownsRow_kind ho g rfl
    exact hk g c fz hc
theorem FvOwn.strs {w : World} {v : Value} {zs : List ByteArray} (h : FvOwn w v zs) (hn : zs.length ≤ 1048576) : StrsAt w w.heap.size v zs := by
  rcases h with ⟨rfl, rfl⟩ | ⟨g, cap, rfl, ho⟩
  · exact .isNil
  · obtain ⟨c, fz, hb⟩ := Lib.ownsRow_kind ho g rfl
    refine .isAt g 0 cap zs (Array.getElem?_eq_some_iff.1 hb).1 (by unfold maxLen; omega) (fun i hi => ?_)
    rw [Nat.zero_add, ho.cellAt i (by simpa using hi)]
    simp [List.getElem?_eq_getElem hi]
theorem FvNew.own {B : Nat} {w : World} {v : Value} {zs : List ByteArray} (h : FvNew B w v zs) : FvOwn w v zs := by
  obtain ⟨g, cap, rfl, _, ho⟩ := h
  exact .inr ⟨g, cap, rfl, base0 ho⟩
theorem mkIdentsO (a : Option Addr) (n c : Nat) (zs : List ByteArray) (w : World) (h : StrsAt w w.heap.size (.slice a n c) zs) (hl : zs.length = n) (hn : n ≤ 1048576) :
    Calls Tryf.prog 35 #[.slice a n c] w fun e w' => (∃ a' c', e = .returned (.slice a' n c') ∧ FvOwn w' (.slice a' n c') zs) ∧ Below w.heap.size w w' := by
  subst hl
  have key : ∀ (v : Value), v = .slice a zs.length c → StrsAt w w.heap.size v zs → Calls Tryf.prog 35 #[v] w fun e w' => (∃ a' c', e = .returned (.slice a' zs.length c') ∧ FvOwn w' (.slice a' zs.length c') zs) ∧ Below w.heap.size w w' := by
    intro v _ h
    cases h with
    | isNil => exact (mkIdents_nil w).mono fun e w' ⟨he, hw⟩ => ⟨⟨none, 0, he, .inl ⟨rfl, rfl⟩⟩, by rw [hw]; exact Below.refl _ _⟩
    | isAt b off cap zs hb hm hc =>
      exact (mkIdents_some ⟨b, off, none⟩ zs.length cap zs rfl w (fun _ => ⟨b, off, rfl, hb, hc⟩) hn).mono fun e w' ⟨he, ho, hbw⟩ => ⟨⟨_, _, he, .inr ⟨_, _, rfl, base0 ho⟩⟩, hbw⟩
    | isBare a cap => exact (mkIdents_some a 0 cap [] rfl w (fun h => by omega) hn).mono fun e w' ⟨he, ho, hbw⟩ => ⟨⟨_, _, he, .inr ⟨_, _, rfl, base0 ho⟩⟩, hbw⟩
  exact key _ rfl h

def nA (v : Option Addr × Nat × Nat) : NBase := ⟨none, 0, 0, none, v.1, v.2.1, v.2.2, none, ⟨#[]⟩, 0, 0, 0, 0⟩
def sl (v : Option Addr × Nat × Nat) : Value := .slice v.1 v.2.1 v.2.2
def ptrTo (b : Nat) : Value := .pointer (some ⟨b, 0, none⟩)
def vals (P : Nat → Bool) (b : Nat → Nat) (q : Nat) : Nat → Value := fun i => if i < q ∧ P i = true then .iface 57 (ptrTo (b i)) else .nilIface
def ptrs (P : Nat → Bool) (b : Nat → Nat) (q : Nat) : Nat → Value := fun i => if i < q ∧ P i = true then ptrTo (b i) else .pointer none
def fods (h : Nat → Nat) (q : Nat) : Nat → Value := fun i => if i < q ∧ i % 2 = 0 then .slice (some ⟨h i, 0, none⟩) 1 1 else .slice none 0 0
def fodRow (bl : Int) : Array Value := #[.slice none 0 0, .int .i64 0, .int .i64 bl, .int .i64 0]
/-- The list L and the variables V: qv values and qf fodders done. -/
structure SpSt (w wr : World) (L V n qv qf : Nat) (ids : Nat → ByteArray) (P : Nat → Bool) (fz : List ByteArray) (bl : Int) (b h : Nat → Nat) (N : Nat → Option Addr × Nat × Nat) : Prop where
  rowL : CseRow wr L n (vals P b qv) (fods h qf)
  rowV : ∃ D : Array Value, wr.heap[V]? = some (.cells D 57 (0, 0)) ∧ ∀ i, i < n → D[i]? = some (ptrs P b qv i)
  var : ∀ i, i < qv → P i = true → wr.heap[b i]? = some (.cells (varCells (ids i) (nA (N i))) 60 (0, 0)) ∧ FvOwn wr (sl (N i)) fz
  fod : ∀ i, i < qf → i % 2 = 0 → wr.heap[h i]? = some (.cells (fodRow bl) 97 (0, 0))
  below : Below w.heap.size w wr
  geL : w.heap.size ≤ L
  geV : w.heap.size ≤ V
section
variable {w wr w' X : World} {L V n q qv qf : Nat} {ids : Nat → ByteArray} {P : Nat → Bool} {fz : List ByteArray} {bl : Int} {b h : Nat → Nat} {N : Nat → Option Addr × Nat × Nat}
theorem SpSt.ne (s : SpSt w wr L V n qv qf ids P fz bl b h N) : L ≠ V := fun e => by
  obtain ⟨C, hC, _⟩ := s.rowL
  obtain ⟨D, hD, _⟩ := s.rowV
  rw [e, hD] at hC
  cases hC
theorem SpSt.ltL (s : SpSt w wr L V n qv qf ids P fz bl b h N) : L < wr.heap.size := by
  obtain ⟨C, hC, _⟩ := s.rowL
  exact (Array.getElem?_eq_some_iff.1 hC).1
theorem SpSt.ltV (s : SpSt w wr L V n qv qf ids P fz bl b h N) : V < wr.heap.size := by
  obtain ⟨D, hD, _⟩ := s.rowV
  exact (Array.getElem?_eq_some_iff.1 hD).1
theorem SpSt.up (s : SpSt w wr L V n qv qf ids P fz bl b h N) (hb : Below wr.heap.size wr w') : SpSt w w' L V n qv qf ids P fz bl b h N := by
  have k : ∀ {i : Nat} {o : Obj}, wr.heap[i]? = some o → w'.heap[i]? = some o := fun {i o} hi => (hb.block i (Array.getElem?_eq_some_iff.1 hi).1).trans hi
  obtain ⟨C, hC, hc⟩ := s.rowL
  obtain ⟨D, hD, hd⟩ := s.rowV
  exact ⟨⟨C, k hC, hc⟩, ⟨D, k hD, hd⟩, fun i h1 h2 => ⟨k (s.var i h1 h2).1, (s.var i h1 h2).2.keepT fun j c fz hj => (k hj).trans hj.symm⟩, fun i h1 h2 => k (s.fod i h1 h2), s.below.trans (hb.mono s.below.size), s.geL, s.geV⟩
theorem SpSt.skipV (s : SpSt w wr L V n q qf ids P fz bl b h N) (hp : P q = false) : SpSt w wr L V n (q + 1) qf ids P fz bl b h N := by
  have e : ∀ i, (i < q + 1 ∧ P i = true) = (i < q ∧ P i = true) := fun i => propext ⟨fun ⟨h1, h2⟩ => ⟨by
    by_cases e : i = q
    · subst e; rw [hp] at h2; cases h2
    · omega, h2⟩, fun ⟨h1, h2⟩ => ⟨by omega, h2⟩⟩
  refine ⟨?_, ?_, fun i hi hpi => s.var i (by
    by_cases e : i = q
    · subst e; rw [hp] at hpi; cases hpi
    · omega) hpi, s.fod, s.below, s.geL, s.geV⟩
  · rw [show vals P b (q + 1) = vals P b q from funext fun i => by simp only [vals, e]]
    exact s.rowL
  · rw [show ptrs P b (q + 1) = ptrs P b q from funext fun i => by simp only [ptrs, e]]
    exact s.rowV
theorem SpSt.skipF (s : SpSt w wr L V n qv q ids P fz bl b h N) (hp : q % 2 = 1) : SpSt w wr L V n qv (q + 1) ids P fz bl b h N := by
  have e : ∀ i, (i < q + 1 ∧ i % 2 = 0) = (i < q ∧ i % 2 = 0) := fun i => propext ⟨fun ⟨h1, h2⟩ => ⟨by
    by_cases e : i = q
    · subst e; omega
    · omega, h2⟩, fun ⟨h1, h2⟩ => ⟨by omega, h2⟩⟩
  refine ⟨?_, s.rowV, s.var, fun i hi hpi => s.fod i (by
    by_cases e : i = q
    · subst e; omega
    · omega) hpi, s.below, s.geL, s.geV⟩
  rw [show fods h (q + 1) = fods h q from funext fun i => by simp only [fods, e]]
  exact s.rowL
/-- A value is laid. -/
theorem SpSt.stepV (s : SpSt w wr L V n q q ids P fz bl b h N) (hq : q < n) (hp : P q = true) (vb : Nat) (nv : Option Addr × Nat × Nat) (_hvb : wr.heap.size ≤ vb)
    (hL : ∀ C, wr.heap[L]? = some (.cells C 56 (0, 0)) → w'.heap[L]? = some (.cells ((C.setIfInBounds (q * 2) (.iface 57 (ptrTo vb))).setIfInBounds (q * 2 + 1) (.slice none 0 0)) 56 (0, 0)))
    (hV : ∀ D, wr.heap[V]? = some (.cells D 57 (0, 0)) → w'.heap[V]? = some (.cells (D.setIfInBounds q (ptrTo vb)) 57 (0, 0)))
    (hn : w'.heap[vb]? = some (.cells (varCells (ids q) (nA nv)) 60 (0, 0))) (hf : FvOwn w' (sl nv) fz) (hk : ∀ i, i < wr.heap.size → i ≠ L → i ≠ V → w'.heap[i]? = wr.heap[i]?) (hos : w'.os = wr.os ∧ w'.tape = wr.tape ∧ w'.output = wr.output ∧ wr.heap.size ≤ w'.heap.size) :
    ∃ b' N', SpSt w w' L V n (q + 1) q ids P fz bl b' h N' := by
  obtain ⟨C, hC, hc⟩ := s.rowL
  obtain ⟨D, hD, hd⟩ := s.rowV
  have hCs : ∀ i, i < n → i * 2 + 1 < C.size := fun i hi => (Array.getElem?_eq_some_iff.1 (hc i hi).2).1
  have hDs : ∀ i, i < n → i < D.size := fun i hi => (Array.getElem?_eq_some_iff.1 (hd i hi)).1
  have k : ∀ {i : Nat} {c : Array Value} {t : TypeId} {fr : Nat × Nat}, wr.heap[i]? = some (Obj.cells c t fr) → t ≠ 56 → t ≠ 57 → w'.heap[i]? = wr.heap[i]? := fun {i c t fr} hi h1 h2 =>
    hk i (Array.getElem?_eq_some_iff.1 hi).1 (fun e => by rw [e, hC] at hi; cases hi; exact h1 rfl) (fun e => by rw [e, hD] at hi; cases hi; exact h2 rfl)
  refine ⟨fun i => if i = q then vb else b i, fun i => if i = q then nv else N i, ⟨_, hL C hC, fun i hi => ?_⟩, ⟨_, hV D hD, fun i hi => ?_⟩, fun i hi hpi => ?_, fun i h1 h2 => (k (s.fod i h1 h2) (by decide) (by decide)).trans (s.fod i h1 h2), ?_, s.geL, s.geV⟩
  · by_cases e : i = q
    · subst e
      refine ⟨?_, ?_⟩
      · rw [Array.getElem?_setIfInBounds_ne (by omega), Array.getElem?_setIfInBounds_self, if_pos (by have := hCs i hi; omega)]
        simp [vals, hp]
      · rw [Array.getElem?_setIfInBounds_self, if_pos (by simpa using hCs i hi)]
        simp [fods]
    · rw [Array.getElem?_setIfInBounds_ne (by omega), Array.getElem?_setIfInBounds_ne (by omega), Array.getElem?_setIfInBounds_ne (by omega), Array.getElem?_setIfInBounds_ne (by omega)]
      refine ⟨?_, (hc i hi).2⟩
      rw [(hc i hi).1]
      simp only [vals, if_neg e, show (i < q + 1) = (i < q) from propext ⟨fun h => by omega, fun h => by omega⟩]
  · by_cases e : i = q
    · subst e
      rw [Array.getElem?_setIfInBounds_self, if_pos (hDs i hi)]
      simp [ptrs, hp]
    · rw [Array.getElem?_setIfInBounds_ne (by omega), hd i hi]
      simp only [ptrs, if_neg e, show (i < q + 1) = (i < q) from propext ⟨fun h => by omega, fun h => by omega⟩]
  · by_cases e : i = q
    · subst e
      rw [if_pos rfl, if_pos rfl]
      exact ⟨hn, hf⟩
    · rw [if_neg e, if_neg e]
      have hv := s.var i (by omega) hpi
      exact ⟨(k hv.1 (by decide) (by decide)).trans hv.1, hv.2.keepT fun j c fr hj => k hj (by decide) (by decide)⟩
  · refine s.below.trans ⟨hos.1, hos.2.1, hos.2.2.1, hos.2.2.2, fun k hk2 => ?_⟩
    have := s.geL
    have := s.geV
    exact hk k (Nat.lt_of_lt_of_le hk2 s.below.size) (by omega) (by omega)
/-- A fodder is laid. -/
theorem SpSt.stepF (s : SpSt w wr L V n qv q ids P fz bl b h N) (hq : q < n) (hp : q % 2 = 0) (hb : Nat) (_hvb : wr.heap.size ≤ hb)
    (hL : ∀ C, wr.heap[L]? = some (.cells C 56 (0, 0)) → w'.heap[L]? = some (.cells (C.setIfInBounds (q * 2 + 1) (.slice (some ⟨hb, 0, none⟩) 1 1)) 56 (0, 0)))
    (hn : w'.heap[hb]? = some (.cells (fodRow bl) 97 (0, 0))) (hk : ∀ i, i < wr.heap.size → i ≠ L → w'.heap[i]? = wr.heap[i]?) (hos : w'.os = wr.os ∧ w'.tape = wr.tape ∧ w'.output = wr.output ∧ wr.heap.size ≤ w'.heap.size) :
    ∃ h', SpSt w w' L V n qv (q + 1) ids P fz bl b h' N := by
  obtain ⟨C, hC, hc⟩ := s.rowL
  obtain ⟨D, hD, hd⟩ := s.rowV
  have hCs : ∀ i, i < n → i * 2 + 1 < C.size := fun i hi => (Array.getElem?_eq_some_iff.1 (hc i hi).2).1
  have k : ∀ {i : Nat} {c : Array Value} {t : TypeId} {fr : Nat × Nat}, wr.heap[i]? = some (Obj.cells c t fr) → t ≠ 56 → w'.heap[i]? = wr.heap[i]? := fun {i c t fr} hi h1 =>
    hk i (Array.getElem?_eq_some_iff.1 hi).1 (fun e => by rw [e, hC] at hi; cases hi; exact h1 rfl)
  refine ⟨fun i => if i = q then hb else h i, ⟨_, hL C hC, fun i hi => ?_⟩, ⟨D, (k hD (by decide)).trans hD, hd⟩, fun i h1 h2 => ⟨(k (s.var i h1 h2).1 (by decide)).trans (s.var i h1 h2).1, (s.var i h1 h2).2.keepT fun j c fr hj => k hj (by decide)⟩, fun i h1 h2 => ?_, ?_, s.geL, s.geV⟩
  · rw [Array.getElem?_setIfInBounds_ne (by omega)]
    refine ⟨(hc i hi).1, ?_⟩
    by_cases e : i = q
    · subst e
      rw [Array.getElem?_setIfInBounds_self, if_pos (hCs i hi)]
      simp [fods, hp]
    · rw [Array.getElem?_setIfInBounds_ne (by omega), (hc i hi).2]
      simp only [fods, if_neg e, show (i < q + 1) = (i < q) from propext ⟨fun h => by omega, fun h => by omega⟩]
  · by_cases e : i = q
    · subst e
      rw [if_pos rfl]
      exact hn
    · rw [if_neg e]
      exact (k (s.fod i (by omega) h2) (by decide)).trans (s.fod i (by omega) h2)
  · refine s.below.trans ⟨hos.1, hos.2.1, hos.2.2.1, hos.2.2.2, fun k hk2 => ?_⟩
    have := s.geL
    exact hk k (Nat.lt_of_lt_of_le hk2 s.below.size) (by omega)
end

theorem FvOwn.len {w : World} {v : Option Addr × Nat × Nat} {zs : List ByteArray} (h : FvOwn w (sl v) zs) : zs.length = v.2.1 := by
  rcases h with ⟨h1, rfl⟩ | ⟨g, cap, h1, _⟩
  · unfold sl at h1
    injection h1 with _ h2 _
    rw [h2]; rfl
  · unfold sl at h1
    injection h1 with _ h2 _
    exact h2.symm
def leafS (ids : Nat → ByteArray) (P : Nat → Bool) (fz : List ByteArray) (N : Nat → Option Addr × Nat × Nat) : Nat → Leaf := fun i => if P i = true then .var (ids i) (nA (N i)) fz none else .nil
theorem SpSt.leaf {w wr : World} {L V n qf : Nat} {ids : Nat → ByteArray} {P : Nat → Bool} {fz : List ByteArray} {bl : Int} {b h : Nat → Nat} {N : Nat → Option Addr × Nat × Nat} (s : SpSt w wr L V n n qf ids P fz bl b h N) (hf : fz.length ≤ 1048576) : ∀ i, i < n → LeafAt wr (vals P b n i) (leafS ids P fz N i) := fun i hi => by
  by_cases hp : P i = true
  · rw [leafS, if_pos hp, vals, if_pos ⟨hi, hp⟩]
    have hl := (s.var i hi hp).2.len
    exact ⟨b i, rfl, (s.var i hi hp).1, (s.var i hi hp).2.strs hf, hl, by show (N i).2.1 ≤ 1048576; omega, rfl⟩
  · rw [leafS, if_neg hp, vals, if_neg (fun h => hp h.2)]
    rfl
theorem vals_one (P : Nat → Bool) (b : Nat → Nat) (n i : Nat) : (vals P b n i).oneCell' = true := by
  unfold vals
  split <;> rfl
theorem fods_one (h : Nat → Nat) (n i : Nat) : (fods h n i).oneCell' = true := by
  unfold fods
  split <;> rfl
theorem CseRow.up {w w' : World} {g n : Nat} {vs fs : Nat → Value} (h : CseRow w g n vs fs) (hb : Below w.heap.size w w') : CseRow w' g n vs fs := by
  obtain ⟨C, hC, hc⟩ := h
  exact ⟨C, (hb.block g (Array.getElem?_eq_some_iff.1 hC).1).trans hC, hc⟩
/-- What the tests read of the list's i-th element. -/
theorem SpSt.last {w wr : World} {L V n qf : Nat} {ids : Nat → ByteArray} {P : Nat → Bool} {fz : List ByteArray} {bl : Int} {b h : Nat → Nat} {N : Nat → Option Addr × Nat × Nat} (s : SpSt w wr L V n n qf ids P fz bl b h N) {j : Nat} (hj : j < n) (hp : P j = true) :
    wr.cell? ⟨L, j * 2, none⟩ = some (.iface 57 (.pointer (some ⟨b j, 0, none⟩))) ∧ wr.cell? ⟨L, j * 2 + 1, none⟩ = some (fods h qf j) ∧ wr.cell? ⟨V, j, none⟩ = some (.pointer (some ⟨b j, 0, none⟩)) ∧ wr.cell? ⟨b j, 0, none⟩ = some (.string (ids j)) ∧ wr.cell? ⟨b j, 3, none⟩ = some (sl (N j)) := by
  obtain ⟨a1, a2, _, _⟩ := s.rowL.cells hj
  obtain ⟨D, hD, hd⟩ := s.rowV
  rw [show vals P b n j = .iface 57 (.pointer (some ⟨b j, 0, none⟩)) by simp [vals, hj, hp, ptrTo]] at a1
  refine ⟨a1, a2, (cell_of_row _ _ _ _ _ _ hD).trans ?_, (cell_of_row _ _ 0 _ _ _ (s.var j hj hp).1).trans rfl, (cell_of_row _ _ 3 _ _ _ (s.var j hj hp).1).trans rfl⟩
  rw [hd j hj]
  simp [ptrs, hj, hp, ptrTo]

end Go.Proofs.YtegabjiaekfmbaaFmt.fnCloneCommaSeparatedExprsSpec
