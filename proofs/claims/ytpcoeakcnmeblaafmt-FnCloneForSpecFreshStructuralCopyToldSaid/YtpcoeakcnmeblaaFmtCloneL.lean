/-
  A variable, a string literal or nil in a cell; clone at such a cell.
-/
import Derived.Test.YtpcoeakcnmeblaaFmtCloneB
namespace Go.Proofs.YtpcoeakcnmeblaaFmt
open Go Go.RowKit

inductive Leaf
  | nil
  | var (id : ByteArray) (n : NBase) (zs : List ByteArray) (c : Option ByteArray)
  | lit (v b1 b2 : ByteArray) (kd : Int) (n : NBase) (zs : List ByteArray) (c : Option ByteArray)

def LeafAt (w : World) (v : Value) : Leaf → Prop
  | .nil => v = .nilIface
  | .var id n zs c => ∃ b, v = .iface 47 (.pointer (some ⟨b, 0, none⟩)) ∧ w.heap[b]? = some (.cells (varCells id n) 66 (0, 0)) ∧ NBok w n zs c
  | .lit s b1 b2 kd n zs c => ∃ b, v = .iface 112 (.pointer (some ⟨b, 0, none⟩)) ∧ w.heap[b]? = some (.cells (litCells s b1 b2 kd n) 117 (0, 0)) ∧ NBok w n zs c
/-- Its copy: its head in a block from B on. -/
def LeafNew (B : Nat) (w : World) (v : Value) : Leaf → Prop
  | .nil => v = .nilIface
  | .var id n zs c => ∃ b n', B ≤ b ∧ v = .iface 47 (.pointer (some ⟨b, 0, none⟩)) ∧ w.heap[b]? = some (.cells (varCells id n') 66 (0, 0)) ∧ NBnew B w n n' zs c
  | .lit s b1 b2 kd n zs c => ∃ b n', B ≤ b ∧ v = .iface 112 (.pointer (some ⟨b, 0, none⟩)) ∧ w.heap[b]? = some (.cells (litCells s b1 b2 kd n') 117 (0, 0)) ∧ NBnew B w n n' zs c

theorem Set1.cell {w w' : World} {p q : Addr} {v : Value} (h : Set1 w w' p v) (hq : q ≠ p) (hlt : q.block < w.heap.size) : w'.cell? q = w.cell? q := by
  rw [← World.cell?_setCell_other w p q v (Ne.symm hq)]
  refine World.cell?_of_block ?_
  by_cases hb : q.block = p.block
  · rw [hb]; exact h.self
  · rw [h.kept.block _ hlt hb, Below.heap_setCell w p v _ hb]
theorem Set1.below {w w' : World} {p : Addr} {v : Value} {B : Nat} (h : Set1 w w' p v) (hp : B ≤ p.block) (hB : B ≤ w.heap.size) : Below B w w' := h.kept.below (fun _ e => by subst e; exact hp) hB

/-- A node's NodeBase reads on where one cell that held no string has turned. -/
theorem NBok.set1 {w w' : World} {p : Addr} {u v : Value} {n : NBase} {zs : List ByteArray} {c : Option ByteArray} (hn : NBok w n zs c) (h : Set1 w w' p v) (hp : w.cell? p = some u) (hu : ∀ s, u ≠ .string s) : NBok w' n zs c := by
  have hk : ∀ (q : Addr) (z : ByteArray), q.block < w.heap.size → w.cell? q = some (.string z) → w'.cell? q = some (.string z) := fun q z hlt hq => by
    rw [h.cell (fun e => by rw [e, hp] at hq; exact hu z (Option.some.inj hq)) hlt]
    exact hq
  refine ⟨strs_keep (X := w) hn.fv h.kept.size (fun q z hlt hq => hk q z hlt hq) (Below.refl _ _), hn.len, hn.le, ?_⟩
  have hc := hn.ctx
  cases c with
  | none => exact hc
  | some t =>
    obtain ⟨q, hq, hc⟩ := hc
    exact ⟨q, hq, hk _ _ (World.block_lt_of_cell? w ⟨q, 0, none⟩ hc) hc⟩
theorem LeafAt.set1 {w w' : World} {p : Addr} {u v y : Value} {x : Leaf} {C : Array Value} {T : TypeId} (hx : LeafAt w y x) (h : Set1 w w' p v) (hp : w.cell? p = some u) (hu : ∀ s, u ≠ .string s) (hb : w.heap[p.block]? = some (.cells C T (0, 0))) (hT : T ≠ 66 ∧ T ≠ 117) : LeafAt w' y x := by
  have hk : ∀ (b : Nat) (C2 : Array Value) (T2 : TypeId), w.heap[b]? = some (Obj.cells C2 T2 (0, 0)) → T ≠ T2 → w'.heap[b]? = some (Obj.cells C2 T2 (0, 0)) := fun b C2 T2 h1 h2 => by
    rw [h.kept.block b (Array.getElem?_eq_some_iff.1 h1).1 (fun e => by rw [e, hb] at h1; cases h1; exact h2 rfl)]
    exact h1
  cases x with
  | nil => exact hx
  | var id n zs c =>
    obtain ⟨b, h1, h2, h3⟩ := hx
    exact ⟨b, h1, hk b _ _ h2 hT.1, h3.set1 h hp hu⟩
  | lit s b1 b2 kd n zs c =>
    obtain ⟨b, h1, h2, h3⟩ := hx
    exact ⟨b, h1, hk b _ _ h2 hT.2, h3.set1 h hp hu⟩
/-- A copy stays where old blocks alone turn, or none. -/
theorem FvNew.keep {B : Nat} {w w' : World} {v : Value} {zs : List ByteArray} (h : FvNew B w v zs) (hk : ∀ i, B ≤ i → i < w.heap.size → w'.heap[i]? = w.heap[i]?) : FvNew B w' v zs := by
  obtain ⟨g, cap, rfl, hg, ho⟩ := h
  refine ⟨g, cap, rfl, hg, ownsRow_same ho fun g' hg' => ?_⟩
  obtain rfl : g = g' := by simpa [Value.ownBlock] using hg'
  obtain ⟨c, fz, hc⟩ := Lib.ownsRow_kind ho g rfl
  exact hk g hg (Array.getElem?_eq_some_iff.1 hc).1
theorem NBnew.keep {B : Nat} {w w' : World} {n n' : NBase} {zs : List ByteArray} {c : Option ByteArray} (h : NBnew B w n n' zs c) (hk : ∀ i, B ≤ i → i < w.heap.size → w'.heap[i]? = w.heap[i]?) : NBnew B w' n n' zs c := by
  refine ⟨h.eq, h.fv.keep hk, ?_⟩
  have hc := h.ctx
  cases c with
  | none => exact hc
  | some t =>
    obtain ⟨q, a1, a2, a3⟩ := hc
    exact ⟨q, a1, a2, (hk q a1 (Array.getElem?_eq_some_iff.1 a3).1).trans a3⟩
theorem LeafNew.keep {B : Nat} {w w' : World} {v : Value} {x : Leaf} (h : LeafNew B w v x) (hk : ∀ i, B ≤ i → i < w.heap.size → w'.heap[i]? = w.heap[i]?) : LeafNew B w' v x := by
  cases x with
  | nil => exact h
  | var id n zs c =>
    obtain ⟨b, n', h1, h2, h3, h4⟩ := h
    exact ⟨b, n', h1, h2, (hk b h1 (Array.getElem?_eq_some_iff.1 h3).1).trans h3, h4.keep hk⟩
  | lit s b1 b2 kd n zs c =>
    obtain ⟨b, n', h1, h2, h3, h4⟩ := h
    exact ⟨b, n', h1, h2, (hk b h1 (Array.getElem?_eq_some_iff.1 h3).1).trans h3, h4.keep hk⟩
theorem FvNew.lower {B B' : Nat} {w : World} {v : Value} {zs : List ByteArray} (h : FvNew B w v zs) (hB : B' ≤ B) : FvNew B' w v zs := h.mono hB
theorem NBnew.lower {B B' : Nat} {w : World} {n n' : NBase} {zs : List ByteArray} {c : Option ByteArray} (h : NBnew B w n n' zs c) (hB : B' ≤ B) : NBnew B' w n n' zs c := by
  refine ⟨h.eq, h.fv.mono hB, ?_⟩
  have hc := h.ctx
  cases c with
  | none => exact hc
  | some t =>
    obtain ⟨q, a1, a2, a3⟩ := hc
    exact ⟨q, by omega, a2, a3⟩
theorem LeafNew.lower {B B' : Nat} {w : World} {v : Value} {x : Leaf} (h : LeafNew B w v x) (hB : B' ≤ B) : LeafNew B' w v x := by
  cases x with
  | nil => exact h
  | var id n zs c =>
    obtain ⟨b, n', h1, h2, h3, h4⟩ := h
    exact ⟨b, n', by omega, h2, h3, h4.lower hB⟩
  | lit s b1 b2 kd n zs c =>
    obtain ⟨b, n', h1, h2, h3, h4⟩ := h
    exact ⟨b, n', by omega, h2, h3, h4.lower hB⟩

def CloneAt (p : Addr) (x : Leaf) (w : World) (e : Ending) (w' : World) : Prop := e = .returned (.tuple #[]) ∧ ∃ v', Set1 w w' p v' ∧ LeafNew w.heap.size w' v' x
theorem Set1.same (w : World) (pb po : Nat) (v : Value) (hp : w.cell? ⟨pb, po, none⟩ = some v) {C : Array Value} {T : TypeId} (hb : w.heap[pb]? = some (.cells C T (0, 0))) : Set1 w w ⟨pb, po, none⟩ v := by
  refine ⟨Kept.refl _ w, ?_⟩
  have h1 : C[po]? = some v := (cell_of_row w pb po _ _ _ hb).symm.trans hp
  have h2 := Lib.heap_setCell_same (i := po) hb v
  rw [set_same h1] at h2
  exact hb.trans h2.symm

/-- clone at a cell that holds a variable, a string literal or nil. -/
theorem clone_leaf (pb po : Nat) (v : Value) (x : Leaf) (w : World) (hp : w.cell? ⟨pb, po, none⟩ = some v) (hf : w.frozen? ⟨pb, po, none⟩ = false) (hx : LeafAt w v x)
    {C : Array Value} {T : TypeId} (hb : w.heap[pb]? = some (.cells C T (0, 0))) (hT : T ≠ 66 ∧ T ≠ 117) :
    Calls Tryf.prog 14 #[.pointer (some ⟨pb, po, none⟩)] w (CloneAt ⟨pb, po, none⟩ x w) := by
  cases x with
  | nil =>
    obtain rfl : v = .nilIface := hx
    refine (clone_nil _ w hp).mono ?_
    rintro e w' ⟨rfl, rfl⟩
    exact ⟨rfl, _, Set1.same w pb po _ hp hb, rfl⟩
  | var id n zs c =>
    obtain ⟨b, rfl, h2, h3⟩ := hx
    refine (clone_var pb po b id n zs c w hp hf h2 (fun e => by subst e; rw [h2] at hb; cases hb; exact hT.1 rfl) h3).mono ?_
    rintro e w' ⟨rfl, n', a1, a2, a3⟩
    exact ⟨rfl, _, a3, _, n', Nat.le_refl _, rfl, a1, a2⟩
  | lit s b1 b2 kd n zs c =>
    obtain ⟨b, rfl, h2, h3⟩ := hx
    refine (clone_lit pb po b s b1 b2 kd n zs c w hp hf h2 (fun e => by subst e; rw [h2] at hb; cases hb; exact hT.2 rfl) h3).mono ?_
    rintro e w' ⟨rfl, n', a1, a2, a3⟩
    exact ⟨rfl, _, a3, _, n', Nat.le_refl _, rfl, a1, a2⟩
theorem LeafAt.nostr {w : World} {v : Value} {x : Leaf} (h : LeafAt w v x) : ∀ s, v ≠ .string s := by
  intro s e
  subst e
  cases x with
  | nil => cases h
  | var id n zs c => obtain ⟨b, h, _⟩ := h; cases h
  | lit s b1 b2 kd n zs c => obtain ⟨b, h, _⟩ := h; cases h

end Go.Proofs.YtpcoeakcnmeblaaFmt
