/-
  FnCloneCommaSeparatedExprsDetached: the bound on bytes; the list that the law makes.
-/
import Derived.Test.YtgmmbimbbkbjfaaFmtCsB
import Derived.Test.YtgmmbimbbkbjfaaFmtIdsA
import Derived.OwnWalk
namespace Go.Proofs.YtgmmbimbbkbjfaaFmt.fnCloneCommaSeparatedExprsDetached
open Go Go.RowKit

def Fits (n m : Nat) (zs : List ByteArray) : Prop := n + m ≤ 1048576 ∧ ∀ i, i < n → (zs.getD i ByteArray.empty).size ≤ 1048576
set_option maxRecDepth 100000 in
theorem bytesAt (a : Option Addr) (n c : Nat) (zs : List ByteArray) (pa : Option Addr) (m pc : Nat) (w : World) (hi : StrsAt w w.heap.size (.slice a n c) zs) (hl : zs.length = n) (hn : n ≤ maxLen) (hm : m ≤ maxLen) (hz : ∀ i, i < n → (zs.getD i ByteArray.empty).size ≤ maxLen) :
    Calls Tryf.prog 16 #[.slice a n c, .slice pa m pc] w fun e w' => BPost (Fits n m zs) w e w' := by
  unfold maxLen at hn hm hz
  by_cases q1 : 1048576 < n
  · clear hi hl hz
    go_enter Tryf.func16, Tryf.ntmps16
    go_wp2
    all_goals go_ret
    all_goals exact BPost.no w
  have HI := Lib.hid hi
  have HL := Lib.hid hl
  have HZ := Lib.hid hz
  clear hi hl hz
  go_enter Tryf.func16, Tryf.ntmps16
  go_wp2
  go_loop [5, 6] (fun sm i => ∃ q S : Nat, q ≤ n ∧ i = .int .i64 q ∧ sm = .int .i64 S ∧ S ≤ 1048576 ∧ n ≤ S ∧ Hid (∀ j, j < q → (zs.getD j ByteArray.empty).size ≤ 1048576)) (fun _ i => n - (intOf i).toNat)
  case atStart => exact ⟨0, n, Nat.zero_le _, rfl, by go_num, by omega, by omega, Lib.hid (fun j hj => by omega)⟩
  case round =>
    obtain ⟨q, S, hq, rfl, rfl, hS, hS2, HJ⟩ := hrel
    by_cases hlt : q < n
    · obtain ⟨b, off, rfl, hb, hcc⟩ := HI.out.cell (k := q) (by rw [HL.out]; exact hlt)
      have hc1 := hcc q (by rw [HL.out]; exact hlt)
      have hs1 := HZ.out q hlt
      have hrec : (zs.getD q ByteArray.empty).size ≤ 1048576 → Hid (∀ j, j < q + 1 → (zs.getD j ByteArray.empty).size ≤ 1048576) := fun h => Lib.hid (fun j hj => by
        by_cases e : j = q
        · rw [e]; exact h
        · exact HJ.out j (by omega))
      have HR := Lib.hid hrec
      clear hrec
      generalize zs.getD q ByteArray.empty = t at hc1 hs1 HR
      clear hcc
      by_cases hS1 : 1048576 < t.size
      · go_wp2
        all_goals go_ret
        all_goals exact BPost.no w
      by_cases hS3 : 1048576 < S + t.size
      · go_wp2
        all_goals go_ret
        all_goals exact BPost.no w
      go_wp2
      go_round
      case rel => exact ⟨q + 1, S + t.size, by omega, by go_num, by go_num, by omega, by omega, HR.out (by omega)⟩
      case measure => simp [intOf]; omega
    · obtain rfl : q = n := by omega
      by_cases e1 : 1048576 < m
      · go_wp2
        all_goals go_ret
        all_goals exact BPost.no w
      by_cases e2 : 1048576 < S + m
      · go_wp2
        all_goals go_ret
        all_goals exact BPost.no w
      go_wp2
      go_ret
      exact ⟨⟨true, rfl, fun _ => ⟨by omega, HJ.out⟩⟩, rfl⟩

def n0 : NBase := ⟨none, 0, 0, none, none, 0, 0, none, ⟨#[]⟩, 0, 0, 0, 0⟩
theorem n0_ok (w : World) : NBok w n0 [] none := ⟨.isNil, rfl, by decide, rfl⟩
def nilF : Nat → Value := fun _ => .slice none 0 0
def ptrTo (b : Nat) : Value := .pointer (some ⟨b, 0, none⟩)
def vals (P : Nat → Bool) (b : Nat → Nat) (q : Nat) : Nat → Value := fun i => if i < q ∧ P i = true then .iface 40 (ptrTo (b i)) else .nilIface
def ptrs (P : Nat → Bool) (b : Nat → Nat) (q : Nat) : Nat → Value := fun i => if i < q ∧ P i = true then ptrTo (b i) else .pointer none
/-- The list L and the variables V, the first q rounds done. -/
structure MkSt (w wr : World) (L V n q : Nat) (ids : Nat → ByteArray) (P : Nat → Bool) (b : Nat → Nat) : Prop where
  rowL : CseRow wr L n (vals P b q) nilF
  rowV : ∃ D : Array Value, wr.heap[V]? = some (.cells D 40 (0, 0)) ∧ ∀ i, i < n → D[i]? = some (ptrs P b q i)
  var : ∀ i, i < q → P i = true → wr.heap[b i]? = some (.cells (varCells (ids i) n0) 43 (0, 0))
  below : Below w.heap.size w wr
  geL : w.heap.size ≤ L
  geV : w.heap.size ≤ V
theorem MkSt.ne {w wr : World} {L V n q : Nat} {ids : Nat → ByteArray} {P : Nat → Bool} {b : Nat → Nat} (h : MkSt w wr L V n q ids P b) : L ≠ V := fun e => by
  obtain ⟨C, hC, _⟩ := h.rowL
  obtain ⟨D, hD, _⟩ := h.rowV
  rw [e, hD] at hC
  cases hC
theorem MkSt.cellsL {w wr : World} {L V n q : Nat} {ids : Nat → ByteArray} {P : Nat → Bool} {b : Nat → Nat} (h : MkSt w wr L V n q ids P b) {i : Nat} (hi : i < n) : wr.cell? ⟨L, i * 2, none⟩ = some (vals P b q i) ∧ wr.cell? ⟨L, i * 2 + 1, none⟩ = some (.slice none 0 0) ∧ wr.frozen? ⟨L, i * 2, none⟩ = false ∧ wr.frozen? ⟨L, i * 2 + 1, none⟩ = false := h.rowL.cells hi
theorem MkSt.cellV {w wr : World} {L V n q : Nat} {ids : Nat → ByteArray} {P : Nat → Bool} {b : Nat → Nat} (h : MkSt w wr L V n q ids P b) {i : Nat} (hi : i < n) : wr.cell? ⟨V, i, none⟩ = some (ptrs P b q i) ∧ wr.frozen? ⟨V, i, none⟩ = false := by
  obtain ⟨D, hD, hd⟩ := h.rowV
  exact ⟨(cell_of_row _ _ _ _ _ _ hD).trans (hd i hi), frozen_of hD _⟩
theorem MkSt.skip {w wr : World} {L V n q : Nat} {ids : Nat → ByteArray} {P : Nat → Bool} {b : Nat → Nat} (h : MkSt w wr L V n q ids P b) (hp : P q = false) : MkSt w wr L V n (q + 1) ids P b := by
  have e : ∀ i, (i < q + 1 ∧ P i = true) = (i < q ∧ P i = true) := fun i => propext ⟨fun ⟨h1, h2⟩ => ⟨by
    by_cases e : i = q
    · subst e; rw [hp] at h2; cases h2
    · omega, h2⟩, fun ⟨h1, h2⟩ => ⟨by omega, h2⟩⟩
  refine ⟨?_, ?_, fun i hi hpi => h.var i (by
    by_cases e : i = q
    · subst e; rw [hp] at hpi; cases hpi
    · omega) hpi, h.below, h.geL, h.geV⟩
  · have := h.rowL
    rw [show vals P b (q + 1) = vals P b q from funext fun i => by simp only [vals, e]]
    exact this
  · have := h.rowV
    rw [show ptrs P b (q + 1) = ptrs P b q from funext fun i => by simp only [ptrs, e]]
    exact this
theorem MkSt.step {w wr w' : World} {L V n q : Nat} {ids : Nat → ByteArray} {P : Nat → Bool} {b : Nat → Nat} (h : MkSt w wr L V n q ids P b) (hq : q < n) (hp : P q = true) (vb : Nat) (_hvb : wr.heap.size ≤ vb)
    (hL : ∀ C, wr.heap[L]? = some (.cells C 63 (0, 0)) → w'.heap[L]? = some (.cells ((C.setIfInBounds (q * 2) (.iface 40 (ptrTo vb))).setIfInBounds (q * 2 + 1) (.slice none 0 0)) 63 (0, 0)))
    (hV : ∀ D, wr.heap[V]? = some (.cells D 40 (0, 0)) → w'.heap[V]? = some (.cells (D.setIfInBounds q (ptrTo vb)) 40 (0, 0)))
    (hn : w'.heap[vb]? = some (.cells (varCells (ids q) n0) 43 (0, 0))) (hk : ∀ i, i < wr.heap.size → i ≠ L → i ≠ V → w'.heap[i]? = wr.heap[i]?) (hos : w'.os = wr.os ∧ w'.tape = wr.tape ∧ w'.output = wr.output ∧ wr.heap.size ≤ w'.heap.size) :
    ∃ b', MkSt w w' L V n (q + 1) ids P b' := by
  obtain ⟨C, hC, hc⟩ := h.rowL
  obtain ⟨D, hD, hd⟩ := h.rowV
  have hCs : ∀ i, i < n → i * 2 + 1 < C.size := fun i hi => (Array.getElem?_eq_some_iff.1 (hc i hi).2).1
  have hDs : ∀ i, i < n → i < D.size := fun i hi => (Array.getElem?_eq_some_iff.1 (hd i hi)).1
  refine ⟨fun i => if i = q then vb else b i, ⟨_, hL C hC, fun i hi => ?_⟩, ⟨_, hV D hD, fun i hi => ?_⟩, fun i hi hpi => ?_, ?_, h.geL, h.geV⟩
  · by_cases e : i = q
    · subst e
      refine ⟨?_, ?_⟩
      · rw [Array.getElem?_setIfInBounds_ne (by omega), Array.getElem?_setIfInBounds_self, if_pos (by have := hCs i hi; omega)]
        simp [vals, hp]
      · rw [Array.getElem?_setIfInBounds_self, if_pos (by simpa using hCs i hi)]
        rfl
    · rw [Array.getElem?_setIfInBounds_ne (by omega), Array.getElem?_setIfInBounds_ne (by omega), Array.getElem?_setIfInBounds_ne (by omega), Array.getElem?_setIfInBounds_ne (by omega)]
      refine ⟨?_, (hc i hi).2⟩
      rw [(hc i hi).1]
      simp only [vals, if_neg e, show (i < q + 1) = (i < q) from propext ⟨fun h => by omega, fun h => by omega⟩]
  · by_cases e : i = q
    · subst e
      rw [Array.getElem?_setIfInBounds_self, if_pos (hDs i hi)]
      simp [ptrs, hp]
    · rw [Array.getElem?_setIfInBounds_ne (by omega), hd i hi]
      simp only [ptrs, if_neg e, show (i < q + 1) = (i < q) from propext ⟨fun h => by omega, fun h => by omega⟩]
  · by_cases e : i = q
    · subst e
      rw [if_pos rfl]
      exact hn
    · rw [if_neg e]
      have hv := h.var i (by omega) hpi
      rw [hk (b i) (Array.getElem?_eq_some_iff.1 hv).1 (fun e => by rw [e, hC] at hv; cases hv) (fun e => by rw [e, hD] at hv; cases hv)]
      exact hv
  · refine h.below.trans ⟨hos.1, hos.2.1, hos.2.2.1, hos.2.2.2, fun k hk2 => ?_⟩
    have := h.geL
    have := h.geV
    exact hk k (Nat.lt_of_lt_of_le hk2 h.below.size) (by omega) (by omega)

end Go.Proofs.YtgmmbimbbkbjfaaFmt.fnCloneCommaSeparatedExprsDetached
