/-
  A Function: its cells; rows of parameters.
-/
import Derived.Test.YtegabjiaekfmbaaFmtCsA
namespace Go.Proofs.YtegabjiaekfmbaaFmt
open Go Go.RowKit

theorem infoPar : (Tryf.prog.info? 82).map (fun i => (i.zero, i.size, i.bytes)) = some (some (.agg #[.slice none 0 0, .string ⟨#[]⟩, .slice none 0 0, .slice none 0 0, .nilIface, .pointer none, .string ⟨#[]⟩, .int .i64 0, .int .i64 0, .int .i64 0, .int .i64 0]), 11, 160) := by kernel_rfl
theorem nodeFn : NodeT 69 4 := ⟨fun _ _ => by kernel_rfl, fun _ _ => by kernel_rfl, fun _ _ => by kernel_rfl, fun _ _ => by kernel_rfl, fun _ _ => by kernel_rfl, fun _ _ => by kernel_rfl⟩
def fnCells (v : Value) (pa : Option Addr) (pn pc : Nat) (n : NBase) : Array Value := #[.slice none 0 0, .slice none 0 0, v, .slice pa pn pc, .slice n.fa n.fn n.fc, .pointer n.ca, .slice n.va n.vn n.vc, .pointer n.fp, .string n.nm, .int .i64 n.bl, .int .i64 n.bc, .int .i64 n.el, .int .i64 n.ec, .bool false]
/-- A parameter of which only the name is set. -/
def parCells (s : ByteArray) : List Value := [.slice none 0 0, .string s, .slice none 0 0, .slice none 0 0, .nilIface, .pointer none, .string ⟨#[]⟩, .int .i64 0, .int .i64 0, .int .i64 0, .int .i64 0]
theorem parCells_len (s : ByteArray) : (parCells s).length = 11 := rfl
/-- The first n names of a list of parameters. -/
def pars (n : Nat) (ns : Nat → ByteArray) : List Value := (List.range n).flatMap fun i => parCells (ns i)
theorem pars_len (ns : Nat → ByteArray) : ∀ n, (pars n ns).length = n * 11
  | 0 => rfl
  | n + 1 => by
    have := pars_len ns n
    simp [pars, List.range_succ, parCells] at this ⊢
    omega
theorem pars_get (ns : Nat → ByteArray) : ∀ n i j, i < n → j < 11 → (pars n ns)[i * 11 + j]? = (parCells (ns i))[j]?
  | 0, i, j, h, _ => absurd h (by omega)
  | n + 1, i, j, h, hj => by
    have hl := pars_len ns n
    have e : pars (n + 1) ns = pars n ns ++ parCells (ns n) := by simp [pars, List.range_succ]
    rw [e]
    by_cases hi : i < n
    · rw [List.getElem?_append_left (by omega)]
      exact pars_get ns n i j hi hj
    · obtain rfl : i = n := by omega
      rw [List.getElem?_append_right (by omega), hl, Nat.add_sub_cancel_left]
/-- A row of parameters: its cells. -/
def ParRow (w : World) (g n : Nat) (ns : Nat → ByteArray) : Prop :=
  ∃ C : Array Value, w.heap[g]? = some (.cells C 82 (0, 0)) ∧ ∀ i j, i < n → j < 11 → C[i * 11 + j]? = (parCells (ns i))[j]?
theorem ParRow.cell {w : World} {g n : Nat} {ns : Nat → ByteArray} (h : ParRow w g n ns) {i j : Nat} (hi : i < n) (hj : j < 11) : w.cell? ⟨g, i * 11 + j, none⟩ = (parCells (ns i))[j]? := by
  obtain ⟨C, hb, hc⟩ := h
  exact (cell_of_row _ _ _ _ _ _ hb).trans (hc i j hi hj)
theorem ParRow.frozen {w : World} {g n : Nat} {ns : Nat → ByteArray} (h : ParRow w g n ns) (i : Nat) : w.frozen? ⟨g, i, none⟩ = false := by
  obtain ⟨C, hb, hc⟩ := h
  exact frozen_of hb _
theorem ParRow.lt {w : World} {g n : Nat} {ns : Nat → ByteArray} (h : ParRow w g n ns) : g < w.heap.size := by
  obtain ⟨C, hb, hc⟩ := h
  exact (Array.getElem?_eq_some_iff.1 hb).1
theorem ParRow.keep {w w' : World} {g n : Nat} {ns : Nat → ByteArray} (h : ParRow w g n ns) (hk : w'.heap[g]? = w.heap[g]?) : ParRow w' g n ns := by
  obtain ⟨C, hb, hc⟩ := h
  exact ⟨C, hk.trans hb, hc⟩
/-- A name is set. -/
theorem ParRow.set {w : World} {g n : Nat} {ns : Nat → ByteArray} (h : ParRow w g n ns) {k : Nat} (hk : k < n) (s : ByteArray) : ParRow (w.setCell ⟨g, k * 11 + 1, none⟩ (.string s)) g n (fun i => if i = k then s else ns i) := by
  obtain ⟨C, hb, hc⟩ := h
  refine ⟨C.setIfInBounds (k * 11 + 1) (.string s), (Lib.heap_setCell_same hb _).trans (by simp), fun i j hi hj => ?_⟩
  have hlen : k * 11 + 1 < C.size := (Array.getElem?_eq_some_iff.1 ((hc k 1 hk (by omega)).trans rfl)).1
  by_cases e : i * 11 + j = k * 11 + 1
  · obtain ⟨rfl, rfl⟩ : i = k ∧ j = 1 := by omega
    rw [Array.getElem?_setIfInBounds_self, if_pos hlen]
    dsimp only
    rw [if_pos rfl]
    rfl
  · rw [Array.getElem?_setIfInBounds_ne (Ne.symm e), hc i j hi hj]
    by_cases ei : i = k
    · subst ei
      dsimp only
      rw [if_pos rfl]
      have hj1 : j ≠ 1 := by omega
      match j, hj, hj1 with
      | 0, _, _ => rfl
      | 2, _, _ => rfl
      | 3, _, _ => rfl
      | 4, _, _ => rfl
      | 5, _, _ => rfl
      | 6, _, _ => rfl
      | 7, _, _ => rfl
      | 8, _, _ => rfl
      | 9, _, _ => rfl
      | 10, _, _ => rfl
    · dsimp only
      rw [if_neg ei]
theorem ParRow.congr {w : World} {g n : Nat} {ns ms : Nat → ByteArray} (h : ParRow w g n ns) (e : ∀ i, i < n → ns i = ms i) : ParRow w g n ms := by
  obtain ⟨C, hb, hc⟩ := h
  exact ⟨C, hb, fun i j hi hj => by rw [← e i hi]; exact hc i j hi hj⟩

set_option maxRecDepth 100000 in
theorem append_par (w : World) (ty : TypeId) (g0 : Nat) (hown : w.ownsRow g0 82 11 (.slice (some ⟨g0, 0, none⟩) 0 0) 0 []) (L n c : Nat) (ns : Nat → ByteArray) (hl : ParRow w L n ns) (hn : n ≤ 1048576) (hb : g0 ≤ w.heap.size) :
    ∃ g cap w', (Builtin.append_ #[78, 78] ty #[.slice (some ⟨g0, 0, none⟩) 0 0, .slice (some ⟨L, 0, none⟩) n c]).run Tryf.prog w = .ok (.slice (some ⟨g, 0, none⟩) n cap) w' ∧ ParRow w' g n ns ∧ g0 ≤ g ∧ w.grownBy w' (some g0) := by
  obtain ⟨i0, hi, hz0, hz1, hz2⟩ := info_parts infoPar
  obtain ⟨v', w', r1, r2, r3, r4, r5⟩ := run_append_own_at (P := Tryf.prog) (w := w) g0 78 ty 82 i0 _ 11 160 Tryf.underlying78 hi hz0 hz1 hz2 rfl (by decide) (.slice (some ⟨g0, 0, none⟩) 0 0) 0 [] hown ⟨L, 0, none⟩ n c (pars n ns) (pars_len _ _) (fun j u hu => by
      have hj : j < n * 11 := by
        rcases Nat.lt_or_ge j (n * 11) with h | h
        · exact h
        · rw [List.getElem?_eq_none (by rw [pars_len]; exact h)] at hu; cases hu
      rw [Lib.addr_add, Nat.zero_add]
      have hd := Nat.div_add_mod j 11
      have hm := Nat.mod_lt j (show 0 < 11 by omega)
      have ej : j = j / 11 * 11 + j % 11 := by omega
      have hlt : j / 11 < n := by omega
      rw [ej] at hu ⊢
      rw [pars_get ns n _ _ hlt hm] at hu
      rw [hl.cell hlt hm, hu]) (fun u hu => by
      simp only [pars, List.mem_flatMap, List.mem_range] at hu
      obtain ⟨i, hi, hu⟩ := hu
      simp only [parCells, List.mem_cons, List.not_mem_nil, or_false] at hu
      rcases hu with rfl | rfl | rfl | rfl | rfl | rfl | rfl | rfl | rfl | rfl | rfl <;> rfl) (by unfold maxLen; omega) (by omega) hb
  rw [Nat.zero_add, List.nil_append] at r2
  rcases r2.2 with ⟨hv, _⟩ | ⟨g, cap, cur, hv, hgb, hg, _, _, _, htake⟩
  · exfalso
    subst hv
    rcases r5 with e | e <;> simp [Value.ownBlock] at e
  · subst hv
    refine ⟨g, cap, w', r1, ⟨cur, hg, fun i j hi hj => ?_⟩, hgb, r3⟩
    have h1 := r2.cellAt (i * 11 + j) (by omega)
    rw [cell_of_row _ _ _ _ _ _ hg] at h1
    exact h1.trans (pars_get ns n i j hi hj)

theorem NBok.belowN {w w' : World} {n : NBase} {zs : List ByteArray} {c : Option ByteArray} (h : NBok w n zs c) (hb : Below w.heap.size w w') : NBok w' n zs c := by
  refine ⟨strs_keep (X := w) h.fv hb.size (fun p z hlt hq => (hb.cell hlt).trans hq) (Below.refl _ _), h.len, h.le, ?_⟩
  have hc := h.ctx
  cases c with
  | none => exact hc
  | some t =>
    obtain ⟨q, hq, hc⟩ := hc
    exact ⟨q, hq, (hb.cell (p := ⟨q, 0, none⟩) (World.block_lt_of_cell? w ⟨q, 0, none⟩ hc)).trans hc⟩
theorem LeafAt.belowN {w w' : World} {v : Value} {x : Leaf} (h : LeafAt w v x) (hb : Below w.heap.size w w') : LeafAt w' v x := by
  cases x with
  | nil => exact h
  | var id n zs c =>
    obtain ⟨b, h1, h2, h3⟩ := h
    exact ⟨b, h1, (hb.block b (Array.getElem?_eq_some_iff.1 h2).1).trans h2, h3.belowN hb⟩
  | lit s b1 b2 kd n zs c =>
    obtain ⟨b, h1, h2, h3⟩ := h
    exact ⟨b, h1, (hb.block b (Array.getElem?_eq_some_iff.1 h2).1).trans h2, h3.belowN hb⟩
theorem LeafAt.shape {w : World} {v : Value} {x : Leaf} (h : LeafAt w v x) : v = .nilIface ∨ ∃ T a, v = .iface T (.pointer (some a)) := by
  cases x with
  | nil => exact .inl h
  | var id n zs c => obtain ⟨b, h, _⟩ := h; exact .inr ⟨_, _, h⟩
  | lit s b1 b2 kd n zs c => obtain ⟨b, h, _⟩ := h; exact .inr ⟨_, _, h⟩
/-- A copied list of parameters: none for none, else in new memory. -/
def ParsNew (B : Nat) (w : World) (pa : Option Addr) (pn pc : Nat) : Option (Nat × (Nat → ByteArray)) → Prop
  | none => pa = none ∧ pn = 0 ∧ pc = 0
  | some (k, ns) => ∃ g, pa = some ⟨g, 0, none⟩ ∧ pn = k ∧ B ≤ g ∧ ParRow w g k ns
/-- What clone leaves of a Function. -/
def ClonedFn (p : Addr) (x : Leaf) (ps : Option (Nat × (Nat → ByteArray))) (n : NBase) (zs : List ByteArray) (c : Option ByteArray) (w : World) (e : Ending) (w' : World) : Prop :=
  e = .returned (.tuple #[]) ∧ ∃ v' pa pn pc n', w'.heap[w.heap.size]? = some (.cells (fnCells v' pa pn pc n') 80 (0, 0)) ∧ LeafNew (w.heap.size + 1) w' v' x ∧ ParsNew (w.heap.size + 1) w' pa pn pc ps ∧ NBnew (w.heap.size + 1) w' n n' zs c ∧ Set1 w w' p (.iface 69 (.pointer (some ⟨w.heap.size, 0, none⟩)))

/-- The new Function stands, its parameters are copied: the rest is its body and its NodeBase. -/
structure FnMid (r : Nat) (v : Value) (x : Leaf) (pa : Option Addr) (pn pc : Nat) (ps : Option (Nat × (Nat → ByteArray))) (n : NBase) (zs : List ByteArray) (c : Option ByteArray) (W : World) : Prop where
  row : W.heap[r]? = some (.cells (fnCells v pa pn pc n) 80 (0, 0))
  leaf : LeafAt W v x
  base : NBok W n zs c
  pars : ParsNew (r + 1) W pa pn pc ps

theorem fn_end {pb po : Nat} {v : Value} {x : Leaf} {pa : Option Addr} {pn pc : Nat} {ps : Option (Nat × (Nat → ByteArray))} {n : NBase} {zs : List ByteArray} {c : Option ByteArray} {w X W1 W2 : World} {v1 : Value} (hltp : pb < w.heap.size)
    (hX : Kept (fun i => i = pb) w X) (hXs : w.heap.size < X.heap.size) (hXp : X.heap[pb]? = (w.setCell ⟨pb, po, none⟩ (.iface 69 (.pointer (some ⟨w.heap.size, 0, none⟩)))).heap[pb]?)
    (hM : FnMid w.heap.size v x pa pn pc ps n zs c X) (s1 : Set1 X W1 ⟨w.heap.size, 2, none⟩ v1) (l1 : LeafNew X.heap.size W1 v1 x)
    (h : NBPost w.heap.size 4 (fnCells v1 pa pn pc n) 80 zs c W1 (.returned (.tuple #[])) W2) :
    ClonedFn ⟨pb, po, none⟩ x ps n zs c w (.returned (.tuple #[])) W2 := by
  obtain ⟨_, ca, fv, h1, h2, ⟨g, cap, rfl, hg, ho⟩, hk⟩ := h
  have z1 := s1.kept.size
  have z2 := hk.size
  refine ⟨rfl, v1, pa, pn, pc, { n with ca := ca, va := some ⟨g, 0, none⟩, vn := zs.length, vc := cap }, h1, (l1.keep (fun i hi hlt => hk.block i hlt (by omega))).lower (by omega), ?_, ⟨rfl, FvNew.mono (B := W1.heap.size) ⟨g, cap, rfl, hg, ho⟩ (by omega), ?_⟩, ?_, ?_⟩
  · have hp := hM.pars
    cases ps with
    | none => exact hp
    | some q =>
      obtain ⟨k, ns⟩ := q
      obtain ⟨g, e1, e2, e3, e4⟩ := hp
      have hgl := e4.lt
      exact ⟨g, e1, e2, e3, (e4.keep (s1.kept.block g hgl (by show g ≠ w.heap.size; omega))).keep (hk.block g (by omega) (by omega))⟩
  · cases c with
    | none => exact h2
    | some t =>
      obtain ⟨q, a1, a2, a3⟩ := h2
      exact ⟨q, by omega, a2, a3⟩
  · exact ⟨hk.os.trans (s1.kept.os.trans hX.os), hk.tape.trans (s1.kept.tape.trans hX.tape), hk.output.trans (s1.kept.output.trans hX.output), by have := hX.size; omega, fun i hi hS =>
      (hk.block i (by omega) (by omega)).trans ((s1.kept.block i (by omega) (by show i ≠ w.heap.size; omega)).trans (hX.block i hi hS))⟩
  · show W2.heap[pb]? = _
    rw [hk.block pb (by omega) (by omega), s1.kept.block pb (by omega) (by show pb ≠ w.heap.size; omega)]
    exact hXp

end Go.Proofs.YtegabjiaekfmbaaFmt
