/-
  n008_32: rows of one kind in fresh memory.
-/
import Derived.Test.YthohpccmleodpaaFmtLxR
import Derived.OwnWalk
import Derived.Lib.SliceRun
namespace Go.Proofs.YthohpccmleodpaaFmt
open Go Go.RowKit
namespace Lx

/-- A row of one kind. -/
def Row (W : World) (b : Nat) (T : TypeId) (n : Nat) (u : Nat → Value) : Prop := ∃ C : Array Value, W.heap[b]? = some (.cells C T (0, 0)) ∧ ∀ i, i < n → C[i]? = some (u i)
theorem Row.cell {W : World} {b n : Nat} {T : TypeId} {u : Nat → Value} (h : Row W b T n u) {i : Nat} (hi : i < n) : W.cell? ⟨b, i, none⟩ = some (u i) ∧ W.frozen? ⟨b, i, none⟩ = false := by
  obtain ⟨C, hb, hc⟩ := h
  exact ⟨(cell_of_row _ _ _ _ _ _ hb).trans (hc i hi), by simp [World.frozen?, hb]⟩
theorem Row.lt {W : World} {b n : Nat} {T : TypeId} {u : Nat → Value} (h : Row W b T n u) : b < W.heap.size := by
  obtain ⟨C, hb, _⟩ := h
  exact (Array.getElem?_eq_some_iff.1 hb).1
theorem Row.keep {W W' : World} {b n : Nat} {T : TypeId} {u : Nat → Value} (h : Row W b T n u) (hk : W'.heap[b]? = W.heap[b]?) : Row W' b T n u := by
  obtain ⟨C, hb, hc⟩ := h
  exact ⟨C, hk.trans hb, hc⟩
theorem Row.congr {W : World} {b n : Nat} {T : TypeId} {u v : Nat → Value} (h : Row W b T n u) (he : ∀ i, i < n → u i = v i) : Row W b T n v := by
  obtain ⟨C, hb, hc⟩ := h
  exact ⟨C, hb, fun i hi => (hc i hi).trans (congrArg some (he i hi))⟩
theorem Row.set {W : World} {b n : Nat} {T : TypeId} {u : Nat → Value} (h : Row W b T n u) (i : Nat) (x : Value) : Row (W.setCell ⟨b, i, none⟩ x) b T n (fun k => if k = i then x else u k) := by
  obtain ⟨C, hb, hc⟩ := h
  refine ⟨C.setIfInBounds i x, (Lib.heap_setCell_same hb _).trans (by simp), fun k hk => ?_⟩
  show _ = some (if k = i then x else u k)
  by_cases e : k = i
  · subst e
    rw [Array.getElem?_setIfInBounds_self, if_pos (Array.getElem?_eq_some_iff.1 (hc k hk)).1, if_pos rfl]
  · rw [Array.getElem?_setIfInBounds_ne (by omega), if_neg e]
    exact hc k hk
theorem row_set3 {W : World} {b n k : Nat} {T : TypeId} {u v : Nat → Value} {x : Value} (h : Row W b T n (fun j => if j < k then u j else v j)) (hx : x = u k) : Row (W.setCell ⟨b, k, none⟩ x) b T n (fun j => if j < k + 1 then u j else v j) := by
  refine (h.set k x).congr fun j hj => ?_
  by_cases e : j = k
  · subst e
    rw [if_pos rfl, if_pos (by omega), hx]
  · rw [if_neg e]
    by_cases e2 : j < k
    · rw [if_pos e2, if_pos (by omega)]
    · rw [if_neg e2, if_neg (by omega)]
theorem rowMade {w : World} {g n : Nat} {T : TypeId} {z : Value} (hz : z.cells = #[z]) (h : w.ownsRow g T 1 (.slice (some ⟨g, 0, none⟩) n n) n (madeCells z.cells (n * 1)).toList) : Row w g T n (fun _ => z) := by
  rcases h.2 with ⟨hv, _⟩ | ⟨g', cap, cur, hv, _, hh, _⟩
  · cases hv
  · cases hv
    refine ⟨cur, hh, fun i hi => ?_⟩
    have h0 := h.cellAt i (by omega)
    rw [cell_of_row _ _ _ _ _ _ hh] at h0
    rw [h0, hz, Nat.mul_one, toList_madeCells_one, List.getElem?_replicate, if_pos hi]

def kdAt (T : List Tok) (j : Nat) : Int := (T.getD j (0, ⟨#[]⟩)).1
def dtAt (T : List Tok) (j : Nat) : ByteArray := (T.getD j (0, ⟨#[]⟩)).2
theorem at_of {T : List Tok} {j : Nat} {t : Tok} (h : T[j]? = some t) : kdAt T j = t.1 ∧ dtAt T j = t.2 := by
  simp [kdAt, dtAt, List.getD_eq_getElem?_getD, h]
/-- The two lists' cells. -/
def ZCells (w : World) (gk gd : Nat) (T : List Tok) : Prop := ∀ j, j < T.length → w.cell? ⟨gk, j, none⟩ = some (.int .i64 (kdAt T j)) ∧ w.cell? ⟨gd, j, none⟩ = some (.string (dtAt T j))
theorem ZCells.up {w w' : World} {gk gd : Nat} {T : List Tok} (h : ZCells w gk gd T) (hb : Below w.heap.size w w') (h1 : gk < w.heap.size) (h2 : gd < w.heap.size) : ZCells w' gk gd T := fun j hj =>
  ⟨(hb.cell (p := ⟨gk, j, none⟩) h1).trans (h j hj).1, (hb.cell (p := ⟨gd, j, none⟩) h2).trans (h j hj).2⟩
/-- Where the copying stands: q tokens are read. -/
structure ZSt (w3 wr : World) (gk gd n q : Nat) (T : List Tok) : Prop where
  kin : Row wr gk 3 n (fun j => if j < q then .int .i64 (kdAt T j) else .int .i64 0)
  dat : Row wr gd 9 n (fun j => if j < q then .string (dtAt T j) else .string ⟨#[]⟩)
  kept : Kept (fun b => b = gk ∨ b = gd) w3 wr
theorem ZSt.step {w3 wr : World} {gk gd n q : Nat} {T : List Tok} (h : ZSt w3 wr gk gd n q T) (hne : gk ≠ gd) : ZSt w3 ((wr.setCell ⟨gk, q, none⟩ (.int .i64 (kdAt T q))).setCell ⟨gd, q, none⟩ (.string (dtAt T q))) gk gd n (q + 1) T := by
  have k1 := row_set3 h.kin (x := .int .i64 (kdAt T q)) rfl
  have d1 : Row (wr.setCell ⟨gk, q, none⟩ (.int .i64 (kdAt T q))) gd 9 n (fun j => if j < q then .string (dtAt T j) else .string ⟨#[]⟩) := h.dat.keep (Below.heap_setCell wr ⟨gk, q, none⟩ _ gd (by show gd ≠ gk; omega))
  have c1 : Kept (fun b => b = gk ∨ b = gd) wr (wr.setCell ⟨gk, q, none⟩ (.int .i64 (kdAt T q))) := ⟨rfl, rfl, rfl, by simp [World.setCell], fun i _ hS => Below.heap_setCell wr ⟨gk, q, none⟩ _ i (fun e => hS (.inl e))⟩
  have c2 : Kept (fun b => b = gk ∨ b = gd) (wr.setCell ⟨gk, q, none⟩ (.int .i64 (kdAt T q))) ((wr.setCell ⟨gk, q, none⟩ (.int .i64 (kdAt T q))).setCell ⟨gd, q, none⟩ (.string (dtAt T q))) := ⟨rfl, rfl, rfl, by simp [World.setCell], fun i _ hS => Below.heap_setCell _ ⟨gd, q, none⟩ _ i (fun e => hS (.inr e))⟩
  exact ⟨k1.keep (Below.heap_setCell _ ⟨gd, q, none⟩ _ gk hne), row_set3 d1 rfl, (h.kept.trans c1).trans c2⟩
theorem ZSt.done {w3 wr : World} {gk gd n : Nat} {T : List Tok} (h : ZSt w3 wr gk gd n n T) (hn : n = T.length) : ZCells wr gk gd T := fun j hj => by
  have h1 := (h.kin.cell (i := j) (by omega)).1
  have h2 := (h.dat.cell (i := j) (by omega)).1
  rw [if_pos (by omega)] at h1 h2
  exact ⟨h1, h2⟩
/-- A token's cells in its row. -/
theorem tok_cells {w : World} {B g cap n : Nat} {T : List Tok} {ys : List Value} (ho : w.ownsRow B 47 11 (.slice (some ⟨g, 0, none⟩) n cap) n ys) (ht : TokList T ys) {j : Nat} (hj : j < T.length) :
    w.cell? ⟨g, j * 11 + 10, none⟩ = some (.int .i64 (kdAt T j)) ∧ w.cell? ⟨g, j * 11 + 1, none⟩ = some (.string (dtAt T j)) := by
  have hT : T[j]? = some (T[j]'hj) := List.getElem?_eq_getElem hj
  obtain ⟨h1, h2⟩ := ht j _ hT
  obtain ⟨e1, e2⟩ := at_of hT
  have a1 := ho.cells (g := g) rfl _ _ h1
  have a2 := ho.cells (g := g) rfl _ _ h2
  rw [e1, e2]
  rw [add0] at a1 a2
  exact ⟨a1, a2⟩
theorem tok_lt {w : World} {B g cap n : Nat} {ys : List Value} (ho : w.ownsRow B 47 11 (.slice (some ⟨g, 0, none⟩) n cap) n ys) : g < w.heap.size := by
  obtain ⟨c, fz, hc⟩ := Lib.ownsRow_kind ho g rfl
  exact (Array.getElem?_eq_some_iff.1 hc).1

end Lx
end Go.Proofs.YthohpccmleodpaaFmt
