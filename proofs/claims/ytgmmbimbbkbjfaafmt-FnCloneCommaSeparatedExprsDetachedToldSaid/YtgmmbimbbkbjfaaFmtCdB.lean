/-
  FnCloneCommaSeparatedExprsDetached: what the second loop keeps.
-/
import Derived.Test.YtgmmbimbbkbjfaaFmtCdA
namespace Go.Proofs.YtgmmbimbbkbjfaaFmt.fnCloneCommaSeparatedExprsDetached
open Go Go.RowKit

def leafOf (ids : Nat → ByteArray) (P : Nat → Bool) : Nat → Leaf := fun i => if P i = true then .var (ids i) n0 [] none else .nil
/-- A variable of name id behind an interface value. -/
def VarAt (w : World) (v : Value) (id : ByteArray) : Prop := ∃ b n', v = .iface 40 (ptrTo b) ∧ w.heap[b]? = some (.cells (varCells id n') 43 (0, 0))
theorem VarAt.ofNew {B : Nat} {w : World} {v : Value} {ids : Nat → ByteArray} {P : Nat → Bool} {i : Nat} (h : LeafNew B w v (leafOf ids P i)) (hp : P i = true) : VarAt w v (ids i) := by
  rw [leafOf, if_pos hp] at h
  obtain ⟨b, n', _, h2, h3, _⟩ := h
  exact ⟨b, n', h2, h3⟩
/-- The second loop: the list and the variables stand; the first copy's elements from qr on, its variables from qv on; the second copy whole. -/
structure DetSt (w wr : World) (L V g1 g2 n qr qv : Nat) (ids : Nat → ByteArray) (P : Nat → Bool) (b : Nat → Nat) (u1 u2 : Nat → Value) : Prop where
  made : MkSt w wr L V n n ids P b
  row1 : ∃ C : Array Value, wr.heap[g1]? = some (.cells C 63 (0, 0)) ∧ C.size ≥ n * 2 ∧ ∀ i, qr ≤ i → i < n → C[i * 2]? = some (u1 i) ∧ C[i * 2 + 1]? = some (.slice none 0 0)
  row2 : CseRow wr g2 n u2 nilF
  var1 : ∀ i, qv ≤ i → i < n → P i = true → VarAt wr (u1 i) (ids i)
  var2 : ∀ i, i < n → P i = true → VarAt wr (u2 i) (ids i)
  apart : ∀ i j, i < j → j < n → Apart2 (u1 i) (u1 j)
  cross : ∀ i j, i < n → j < n → Apart2 (u1 i) (u2 j)
  orig : ∀ i j, i < n → P i = true → j < n → headOf (u1 j) ≠ some (b i)
  far1 : L ≠ g1 ∧ g2 ≠ g1
  ge1 : w.heap.size ≤ g1
  geU : ∀ j c, j < n → headOf (u1 j) = some c → w.heap.size ≤ c
theorem VarAt.keep {w w' : World} {v : Value} {id : ByteArray} (h : VarAt w v id) (hk : ∀ b c, headOf v = some b → w.heap[b]? = some c → w'.heap[b]? = w.heap[b]?) : VarAt w' v id := by
  obtain ⟨b, n', rfl, h2⟩ := h
  exact ⟨b, n', rfl, (hk b _ rfl h2).trans h2⟩
theorem MkSt.keep {w wr w' : World} {L V n q : Nat} {ids : Nat → ByteArray} {P : Nat → Bool} {b : Nat → Nat} (h : MkSt w wr L V n q ids P b) (hL : w'.heap[L]? = wr.heap[L]?) (hV : w'.heap[V]? = wr.heap[V]?) (hb : ∀ i, i < q → P i = true → w'.heap[b i]? = wr.heap[b i]?) (hw : Below w.heap.size wr w') : MkSt w w' L V n q ids P b := by
  obtain ⟨C, hC, hc⟩ := h.rowL
  obtain ⟨D, hD, hd⟩ := h.rowV
  exact ⟨⟨C, hL.trans hC, hc⟩, ⟨D, hV.trans hD, hd⟩, fun i hi hp => (hb i hi hp).trans (h.var i hi hp), h.below.trans hw, h.geL, h.geV⟩
theorem MkSt.up {w wr w' : World} {L V n q : Nat} {ids : Nat → ByteArray} {P : Nat → Bool} {b : Nat → Nat} (h : MkSt w wr L V n q ids P b) (hb : Below wr.heap.size wr w') : MkSt w w' L V n q ids P b := by
  obtain ⟨C, hC, _⟩ := h.rowL
  obtain ⟨D, hD, _⟩ := h.rowV
  exact h.keep (hb.block _ (Array.getElem?_eq_some_iff.1 hC).1) (hb.block _ (Array.getElem?_eq_some_iff.1 hD).1) (fun i hi hp => hb.block _ (Array.getElem?_eq_some_iff.1 (h.var i hi hp)).1) (hb.mono h.below.size)
section
variable {w wr w' : World} {L V g1 g2 n qr qv : Nat} {ids : Nat → ByteArray} {P : Nat → Bool} {b : Nat → Nat} {u1 u2 : Nat → Value}
theorem DetSt.up (h : DetSt w wr L V g1 g2 n qr qv ids P b u1 u2) (hb : Below wr.heap.size wr w') : DetSt w w' L V g1 g2 n qr qv ids P b u1 u2 := by
  have k : ∀ {i : Nat} {o : Obj}, wr.heap[i]? = some o → w'.heap[i]? = some o := fun {i o} hi => (hb.block i (Array.getElem?_eq_some_iff.1 hi).1).trans hi
  obtain ⟨C, hC, hs, hc⟩ := h.row1
  obtain ⟨D, hD, hd⟩ := h.row2
  exact ⟨h.made.up hb, ⟨C, k hC, hs, hc⟩, ⟨D, k hD, hd⟩, fun i h1 h2 h3 => (h.var1 i h1 h2 h3).keep (fun c o _ ho => (k ho).trans ho.symm), fun i h2 h3 => (h.var2 i h2 h3).keep (fun c o _ ho => (k ho).trans ho.symm), h.apart, h.cross, h.orig, h.far1, h.ge1, h.geU⟩
theorem DetSt.drewN (h : DetSt w wr L V g1 g2 n qr qv ids P b u1 u2) (m : Nat) : DetSt w (wr.drewN m) L V g1 g2 n qr qv ids P b u1 u2 := h.up (drewN_below (Below.refl _ _) m)
/-- The name of the first copy's q-th variable is written. -/
theorem DetSt.rename {q c : Nat} (h : DetSt w wr L V g1 g2 n q q ids P b u1 u2) (hq : q < n) (hc : u1 q = .iface 40 (ptrTo c)) (id : ByteArray) (hcv : ∃ n', wr.heap[c]? = some (.cells (varCells (ids q) n') 43 (0, 0))) : DetSt w (wr.setCell ⟨c, 0, none⟩ (.string id)) L V g1 g2 n q (q + 1) ids P b u1 u2 := by
  obtain ⟨n', hcv⟩ := hcv
  have hh : headOf (u1 q) = some c := by rw [hc]; rfl
  have k : ∀ i, i ≠ c → (wr.setCell ⟨c, 0, none⟩ (.string id)).heap[i]? = wr.heap[i]? := fun i hi => Below.heap_setCell wr ⟨c, 0, none⟩ _ i hi
  have kt : ∀ {i : Nat} {C : Array Value} {t : TypeId}, wr.heap[i]? = some (.cells C t (0, 0)) → t ≠ 43 → (wr.setCell ⟨c, 0, none⟩ (.string id)).heap[i]? = wr.heap[i]? := fun {i C t} hi ht => k i (fun e => by rw [e, hcv] at hi; cases hi; exact ht rfl)
  obtain ⟨C, hC, hs, hcc⟩ := h.row1
  obtain ⟨D, hD, hd⟩ := h.row2
  obtain ⟨C0, hC0, _⟩ := h.made.rowL
  obtain ⟨D0, hD0, _⟩ := h.made.rowV
  have hb : Below w.heap.size wr (wr.setCell ⟨c, 0, none⟩ (.string id)) := Below.setCell (p := ⟨c, 0, none⟩) (Below.refl _ wr) (h.geU q c hq hh) _
  refine ⟨h.made.keep (kt hC0 (by decide)) (kt hD0 (by decide)) (fun i hi hp => k _ (fun e => h.orig i q hi hp hq (by rw [hh, e]))) hb, ⟨C, (kt hC (by decide)).trans hC, hs, hcc⟩, ⟨D, (kt hD (by decide)).trans hD, hd⟩, fun i h1 h2 h3 => ?_, fun i h2 h3 => ?_, h.apart, h.cross, h.orig, h.far1, h.ge1, h.geU⟩
  · exact (h.var1 i (by omega) h2 h3).keep (fun c' o ho _ => k _ (fun e => h.apart q i (by omega) h2 c hh (by rw [ho, e])))
  · exact (h.var2 i h2 h3).keep (fun c' o ho _ => k _ (fun e => h.cross q i hq h2 c hh (by rw [ho, e])))
/-- The first copy's q-th element is overwritten. -/
theorem DetSt.over {q : Nat} (h : DetSt w wr L V g1 g2 n q (q + 1) ids P b u1 u2) (hV : V ≠ g1) (hw' : w' = (wr.setCell ⟨g1, q * 2, none⟩ .nilIface).setCell ⟨g1, q * 2 + 1, none⟩ (.slice none 0 0)) : DetSt w w' L V g1 g2 n (q + 1) (q + 1) ids P b u1 u2 := by
  subst hw'
  obtain ⟨C, hC, hs, hcc⟩ := h.row1
  obtain ⟨D, hD, hd⟩ := h.row2
  have k : ∀ i, i ≠ g1 → ((wr.setCell ⟨g1, q * 2, none⟩ .nilIface).setCell ⟨g1, q * 2 + 1, none⟩ (.slice none 0 0)).heap[i]? = wr.heap[i]? := fun i hi => (Below.heap_setCell _ ⟨g1, q * 2 + 1, none⟩ _ i hi).trans (Below.heap_setCell wr ⟨g1, q * 2, none⟩ _ i hi)
  have kv : ∀ {i : Nat} {C2 : Array Value}, wr.heap[i]? = some (.cells C2 43 (0, 0)) → ((wr.setCell ⟨g1, q * 2, none⟩ .nilIface).setCell ⟨g1, q * 2 + 1, none⟩ (.slice none 0 0)).heap[i]? = wr.heap[i]? := fun {i C2} hi => k i (fun e => by rw [e, hC] at hi; cases hi)
  have hv : ∀ {v : Value} {id : ByteArray}, VarAt wr v id → VarAt ((wr.setCell ⟨g1, q * 2, none⟩ .nilIface).setCell ⟨g1, q * 2 + 1, none⟩ (.slice none 0 0)) v id := fun {v id} hv => by
    obtain ⟨c, n', rfl, h2⟩ := hv
    exact ⟨c, n', rfl, (kv h2).trans h2⟩
  have hb : Below w.heap.size wr ((wr.setCell ⟨g1, q * 2, none⟩ .nilIface).setCell ⟨g1, q * 2 + 1, none⟩ (.slice none 0 0)) := Below.setCell (p := ⟨g1, q * 2 + 1, none⟩) (Below.setCell (p := ⟨g1, q * 2, none⟩) (Below.refl _ wr) h.ge1 _) h.ge1 _
  refine ⟨h.made.keep (k _ h.far1.1) (k _ hV) (fun i hi hp => kv (h.made.var i hi hp)) hb, ⟨_, (Lib.heap_setCell_same (Lib.heap_setCell_same hC _) _), by simpa using hs, fun i h1 h2 => ?_⟩, ⟨D, (k _ h.far1.2).trans hD, hd⟩, fun i h1 h2 h3 => hv (h.var1 i h1 h2 h3), fun i h2 h3 => hv (h.var2 i h2 h3), h.apart, h.cross, h.orig, h.far1, h.ge1, h.geU⟩
  simp only [Array.getElem?_setIfInBounds]
  rw [if_neg (by omega), if_neg (by omega), if_neg (by omega), if_neg (by omega)]
  exact hcc i (by omega) h2
end

theorem MkSt.leaf {w wr : World} {L V n : Nat} {ids : Nat → ByteArray} {P : Nat → Bool} {b : Nat → Nat} (h : MkSt w wr L V n n ids P b) : ∀ i, i < n → LeafAt wr (vals P b n i) (leafOf ids P i) := fun i hi => by
  by_cases hp : P i = true
  · rw [leafOf, if_pos hp, vals, if_pos ⟨hi, hp⟩]
    exact ⟨b i, rfl, h.var i hi hp, n0_ok wr⟩
  · rw [leafOf, if_neg hp, vals, if_neg (fun h => hp h.2)]
    rfl
theorem vals_one (P : Nat → Bool) (b : Nat → Nat) (n i : Nat) : (vals P b n i).oneCell' = true := by
  unfold vals
  split <;> rfl
theorem DetSt.init {w wr w3 w4 : World} {L V g1 g2 n : Nat} {ids : Nat → ByteArray} {P : Nat → Bool} {b : Nat → Nat} {u1 u2 : Nat → Value} (h : MkSt w wr L V n n ids P b)
    (hg1 : wr.heap.size ≤ g1) (hr1 : CseRow w3 g1 n u1 nilF) (hn1 : ∀ i, i < n → LeafNew wr.heap.size w3 (u1 i) (leafOf ids P i)) (ha1 : ∀ i j, i < j → j < n → Apart2 (u1 i) (u1 j)) (hb3 : Below wr.heap.size wr w3)
    (hg2 : w3.heap.size ≤ g2) (hr2 : CseRow w4 g2 n u2 nilF) (hn2 : ∀ i, i < n → LeafNew w3.heap.size w4 (u2 i) (leafOf ids P i)) (hb4 : Below w3.heap.size w3 w4) : DetSt w w4 L V g1 g2 n 0 0 ids P b u1 u2 := by
  have k : ∀ {i : Nat} {o : Obj}, w3.heap[i]? = some o → w4.heap[i]? = some o := fun {i o} hi => (hb4.block i (Array.getElem?_eq_some_iff.1 hi).1).trans hi
  obtain ⟨C, hC, hc⟩ := hr1
  obtain ⟨C0, hC0, _⟩ := h.rowL
  have hLlt := (Array.getElem?_eq_some_iff.1 hC0).1
  have hs := h.below.size
  refine ⟨(h.up hb3).up hb4, ⟨C, k hC, ?_, fun i _ hi => hc i hi⟩, hr2, fun i _ hi hp => (VarAt.ofNew (hn1 i hi) hp).keep (fun c o _ ho => (k ho).trans ho.symm), fun i hi hp => VarAt.ofNew (hn2 i hi) hp, ha1, fun i j hi hj c h1 h2 => ?_, fun i j hi hp hj e => ?_, ⟨by omega, ?_⟩, by omega, fun j c hj hc => ?_⟩
  · rcases Nat.eq_zero_or_pos n with e | e
    · subst e; exact Nat.zero_le _
    · have := (Array.getElem?_eq_some_iff.1 (hc (n - 1) (by omega)).2).1
      show n * 2 ≤ C.size
      omega
  · have := ((hn1 i hi).lt h1).1
    have := ((hn2 j hj).lt h2).2
    omega
  · have := ((hn1 j hj).lt e).2
    have := (Array.getElem?_eq_some_iff.1 (h.var i hi hp)).1
    omega
  · have := (Array.getElem?_eq_some_iff.1 hC).1
    omega
  · have := ((hn1 j hj).lt hc).2
    omega

section
variable {w wr w' X : World} {L V g1 g2 n qr qv : Nat} {ids : Nat → ByteArray} {P : Nat → Bool} {b : Nat → Nat} {u1 u2 : Nat → Value}
theorem DetSt.weak (h : DetSt w wr L V g1 g2 n qr qv ids P b u1 u2) : DetSt w wr L V g1 g2 n qr (qv + 1) ids P b u1 u2 :=
  ⟨h.made, h.row1, h.row2, fun i h1 h2 h3 => h.var1 i (by omega) h2 h3, h.var2, h.apart, h.cross, h.orig, h.far1, h.ge1, h.geU⟩
theorem DetSt.up' (h : DetSt w wr L V g1 g2 n qr qv ids P b u1 u2) (hb : Below X.heap.size X w') (h1 : X.heap = wr.heap) (h2 : X.os = wr.os) (h3 : X.tape = wr.tape) (h4 : X.output = wr.output) : DetSt w w' L V g1 g2 n qr qv ids P b u1 u2 :=
  h.up ⟨hb.os.trans h2, hb.tape.trans h3, hb.output.trans h4, by rw [← h1]; exact hb.size, fun k hk => by rw [← h1] at hk ⊢; exact hb.block k hk⟩
theorem DetSt.Vg (h : DetSt w wr L V g1 g2 n qr qv ids P b u1 u2) : V ≠ g1 := fun e => by
  obtain ⟨C, hC, _⟩ := h.row1
  obtain ⟨D, hD, _⟩ := h.made.rowV
  rw [← e, hD] at hC
  cases hC
/-- What the last tests read. -/
theorem DetSt.last (h : DetSt w wr L V g1 g2 n qr qv ids P b u1 u2) {j : Nat} (hj : j < n) (hp : P j = true) : wr.cell? ⟨L, j * 2, none⟩ = some (.iface 40 (.pointer (some ⟨b j, 0, none⟩))) ∧ wr.cell? ⟨L, j * 2 + 1, none⟩ = some (.slice none 0 0) ∧ wr.cell? ⟨V, j, none⟩ = some (.pointer (some ⟨b j, 0, none⟩)) := by
  obtain ⟨a1, a2, _, _⟩ := h.made.cellsL hj
  obtain ⟨a3, _⟩ := h.made.cellV hj
  rw [show vals P b n j = .iface 40 (.pointer (some ⟨b j, 0, none⟩)) by simp [vals, hj, hp, ptrTo]] at a1
  rw [show ptrs P b n j = .pointer (some ⟨b j, 0, none⟩) by simp [ptrs, hj, hp, ptrTo]] at a3
  exact ⟨a1, a2, a3⟩
end

end Go.Proofs.YtgmmbimbbkbjfaaFmt.fnCloneCommaSeparatedExprsDetached
