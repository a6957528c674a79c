/-
  For-chains: what the memory holds (n008_165).
-/
import Derived.Test.YtpcoeakcnmeblaaFmtCloneL
import Derived.Test.YtpcoeakcnmeblaaFmtHeads
import Derived.Laws.Rows
import Derived.Deep.Slices
import Derived.OwnWalk
namespace Go.Proofs.YtpcoeakcnmeblaaFmt
open Go Go.RowKit
namespace Fr

def ptr (b : Nat) : Value := .pointer (some ⟨b, 0, none⟩)
def vi (b : Nat) : Value := .iface 47 (.pointer (some ⟨b, 0, none⟩))
/-- A node that the law makes: its head, its list of free variables. -/
def nodeNB (g cap : Nat) (tag : ByteArray) (line col : Int) : NBase := ⟨none, 0, 0, none, some ⟨g, 0, none⟩, 1, cap, none, tag, line, col, 0, 0⟩
def NodeAt (W : World) (b g : Nat) (tag : ByteArray) (line col : Int) : Prop :=
  W.heap[b]? = some (.cells (varCells tag (nodeNB g 1 tag line col)) 66 (0, 0)) ∧ W.heap[g]? = some (.cells #[.string tag] 37 (0, 0))
/-- Its copy, in blocks from B on. -/
def CopyAt (B : Nat) (W : World) (v : Value) (tag : ByteArray) (line col : Int) : Prop :=
  ∃ b g cap, v = vi b ∧ B ≤ b ∧ B ≤ g ∧ W.heap[b]? = some (.cells (varCells tag (nodeNB g cap tag line col)) 66 (0, 0)) ∧ ∃ c : Array Value, W.heap[g]? = some (.cells c 37 (0, 0)) ∧ c[0]? = some (.string tag)

/-- A row of one kind. -/
def Row (W : World) (b : Nat) (T : TypeId) (n : Nat) (u : Nat → Value) : Prop := ∃ C : Array Value, W.heap[b]? = some (.cells C T (0, 0)) ∧ ∀ i, i < n → C[i]? = some (u i)
/-- A row of conditions. -/
def IfRow (W : World) (b n : Nat) (u : Nat → Value) : Prop := ∃ C : Array Value, W.heap[b]? = some (.cells C 46 (0, 0)) ∧ ∀ i, i < n → C[i * 2]? = some (u i) ∧ C[i * 2 + 1]? = some (.slice none 0 0)

theorem Row.cell {W : World} {b n : Nat} {T : TypeId} {u : Nat → Value} (h : Row W b T n u) {i : Nat} (hi : i < n) : W.cell? ⟨b, i, none⟩ = some (u i) ∧ W.frozen? ⟨b, i, none⟩ = false := by
  obtain ⟨C, hb, hc⟩ := h
  exact ⟨(cell_of_row _ _ _ _ _ _ hb).trans (hc i hi), frozen_of hb _⟩
theorem Row.lt {W : World} {b n : Nat} {T : TypeId} {u : Nat → Value} (h : Row W b T n u) : b < W.heap.size := by
  obtain ⟨C, hb, _⟩ := h
  exact (Array.getElem?_eq_some_iff.1 hb).1
theorem Row.keep {W W' : World} {b n : Nat} {T : TypeId} {u : Nat → Value} (h : Row W b T n u) (hk : W'.heap[b]? = W.heap[b]?) : Row W' b T n u := by
  obtain ⟨C, hb, hc⟩ := h
  exact ⟨C, hk.trans hb, hc⟩
theorem Row.congr {W : World} {b n : Nat} {T : TypeId} {u v : Nat → Value} (h : Row W b T n u) (he : ∀ i, i < n → u i = v i) : Row W b T n v := by
  obtain ⟨C, hb, hc⟩ := h
  exact ⟨C, hb, fun i hi => (hc i hi).trans (congrArg some (he i hi))⟩
theorem Row.set {W : World} {b n : Nat} {T : TypeId} {u : Nat → Value} (h : Row W b T n u) (i : Nat) (x : Value) : Row (W.setCell ⟨b, i, none⟩ x) b T n (fun k => if k = i then x else u k) := by
  obtain ⟨C, hb, hc⟩ := h
  refine ⟨C.setIfInBounds i x, (Lib.heap_setCell_same hb _).trans (by simp), fun k hk => ?_⟩
  show _ = some (if k = i then x else u k)
  by_cases e : k = i
  · subst e
    rw [Array.getElem?_setIfInBounds_self, if_pos (Array.getElem?_eq_some_iff.1 (hc k hk)).1, if_pos rfl]
  · rw [Array.getElem?_setIfInBounds_ne (by omega), if_neg e]
    exact hc k hk
theorem IfRow.cell {W : World} {b n : Nat} {u : Nat → Value} (h : IfRow W b n u) {i : Nat} (hi : i < n) : W.cell? ⟨b, i * 2, none⟩ = some (u i) ∧ W.cell? ⟨b, i * 2 + 1, none⟩ = some (.slice none 0 0) ∧ W.frozen? ⟨b, i * 2, none⟩ = false := by
  obtain ⟨C, hb, hc⟩ := h
  exact ⟨(cell_of_row _ _ _ _ _ _ hb).trans (hc i hi).1, (cell_of_row _ _ _ _ _ _ hb).trans (hc i hi).2, frozen_of hb _⟩
theorem IfRow.lt {W : World} {b n : Nat} {u : Nat → Value} (h : IfRow W b n u) : b < W.heap.size := by
  obtain ⟨C, hb, _⟩ := h
  exact (Array.getElem?_eq_some_iff.1 hb).1
theorem IfRow.keep {W W' : World} {b n : Nat} {u : Nat → Value} (h : IfRow W b n u) (hk : W'.heap[b]? = W.heap[b]?) : IfRow W' b n u := by
  obtain ⟨C, hb, hc⟩ := h
  exact ⟨C, hk.trans hb, hc⟩
theorem IfRow.congr {W : World} {b n : Nat} {u v : Nat → Value} (h : IfRow W b n u) (he : ∀ i, i < n → u i = v i) : IfRow W b n v := by
  obtain ⟨C, hb, hc⟩ := h
  exact ⟨C, hb, fun i hi => ⟨(hc i hi).1.trans (congrArg some (he i hi)), (hc i hi).2⟩⟩
theorem IfRow.set {W W' : World} {b n : Nat} {u : Nat → Value} (h : IfRow W b n u) (i : Nat) (x : Value) (hs : W'.heap[b]? = (W.setCell ⟨b, i * 2, none⟩ x).heap[b]?) : IfRow W' b n (fun k => if k = i then x else u k) := by
  obtain ⟨C, hb, hc⟩ := h
  refine ⟨C.setIfInBounds (i * 2) x, hs.trans ((Lib.heap_setCell_same hb _).trans (by simp)), fun k hk => ⟨?_, ?_⟩⟩
  · show _ = some (if k = i then x else u k)
    by_cases e : k = i
    · subst e
      rw [Array.getElem?_setIfInBounds_self, if_pos (Array.getElem?_eq_some_iff.1 (hc k hk).1).1, if_pos rfl]
    · rw [Array.getElem?_setIfInBounds_ne (by omega), if_neg e]
      exact (hc k hk).1
  · rw [Array.getElem?_setIfInBounds_ne (by omega)]
    exact (hc k hk).2

theorem NodeAt.keep {W W' : World} {b g : Nat} {tag : ByteArray} {line col : Int} (h : NodeAt W b g tag line col) (hk : ∀ (k : Nat) (c : Array Value) (t : TypeId), W.heap[k]? = some (Obj.cells c t (0, 0)) → (t = 66 ∨ t = 37) → W'.heap[k]? = W.heap[k]?) : NodeAt W' b g tag line col :=
  ⟨(hk b _ _ h.1 (.inl rfl)).trans h.1, (hk g _ _ h.2 (.inr rfl)).trans h.2⟩
theorem CopyAt.keep {B : Nat} {W W' : World} {v : Value} {tag : ByteArray} {line col : Int} (h : CopyAt B W v tag line col) (hk : ∀ (k : Nat) (c : Array Value) (t : TypeId), W.heap[k]? = some (Obj.cells c t (0, 0)) → (t = 66 ∨ t = 37) → W'.heap[k]? = W.heap[k]?) : CopyAt B W' v tag line col := by
  obtain ⟨b, g, cap, h0, h1, h2, h3, c, h4, h5⟩ := h
  exact ⟨b, g, cap, h0, h1, h2, (hk b _ _ h3 (.inl rfl)).trans h3, c, (hk g _ _ h4 (.inr rfl)).trans h4, h5⟩
theorem CopyAt.lower {B B' : Nat} {W : World} {v : Value} {tag : ByteArray} {line col : Int} (h : CopyAt B W v tag line col) (hB : B' ≤ B) : CopyAt B' W v tag line col := by
  obtain ⟨b, g, cap, h0, h1, h2, h3⟩ := h
  exact ⟨b, g, cap, h0, by omega, by omega, h3⟩
theorem NodeAt.lt {W : World} {b g : Nat} {tag : ByteArray} {line col : Int} (h : NodeAt W b g tag line col) : b < W.heap.size ∧ g < W.heap.size := ⟨(Array.getElem?_eq_some_iff.1 h.1).1, (Array.getElem?_eq_some_iff.1 h.2).1⟩
/-- What clone wants and hands back. -/
def leafOf (g : Nat) (tag : ByteArray) (line col : Int) : Leaf := .var tag (nodeNB g 1 tag line col) [tag] none
theorem NodeAt.leaf {W : World} {b g : Nat} {tag : ByteArray} {line col : Int} (h : NodeAt W b g tag line col) : LeafAt W (vi b) (leafOf g tag line col) := by
  refine ⟨b, rfl, h.1, ?_, rfl, by show (1 : Nat) ≤ 1048576; omega, rfl⟩
  refine .isAt g 0 1 [tag] h.lt.2 (by simp [maxLen]) (fun i hi => ?_)
  obtain rfl : i = 0 := by simpa using hi
  exact (cell_of_row _ _ 0 _ _ _ h.2).trans rfl
theorem copy_of_leaf {B : Nat} {W : World} {v : Value} {g : Nat} {tag : ByteArray} {line col : Int} (h : LeafNew B W v (leafOf g tag line col)) : CopyAt B W v tag line col := by
  obtain ⟨b, n', h1, h2, h3, h4⟩ := h
  obtain ⟨g', cap, h5, h6, h7⟩ := h4.fv
  have hctx : n'.ca = none := h4.ctx
  have e := h4.eq
  rw [hctx] at e
  simp only [Value.slice.injEq] at h5
  obtain ⟨e1, e2, e3⟩ := h5
  rw [e1, e2, e3] at e h7
  obtain ⟨c, fz, hc⟩ := Lib.ownsRow_kind h7 g' rfl
  have h8 := h7.cellAt 0 (by simp)
  rw [e] at h3
  rcases h7.2 with ⟨hv, _⟩ | ⟨g2, cap2, cur, hv, _, hg, _⟩
  · cases hv
  · cases hv
    rw [cell_of_row _ _ _ _ _ _ hg] at h8
    exact ⟨b, g', cap, h2, h1, h6, h3, cur, hg, by simpa using h8⟩

/-! ### the levels -/
structure Lev where
  vn : ByteArray
  en : Bool
  et : ByteArray
  ct : List ByteArray
def Lev.tag (l : Lev) (j : Nat) : ByteArray := l.ct.getD j ByteArray.empty
def LevAt (W : World) (B b o : Nat) (l : Lev) : Prop :=
  W.cell? ⟨b, o, none⟩ = some (.string l.vn) ∧ W.cell? ⟨b, o + 1, none⟩ = some (.bool l.en) ∧ W.cell? ⟨b, o + 2, none⟩ = some (.string l.et) ∧ ∃ ca cc, W.cell? ⟨b, o + 3, none⟩ = some (.slice ca l.ct.length cc) ∧ StrsAt W B (.slice ca l.ct.length cc) l.ct
/-- A slice of levels. -/
def LevsAt (W : World) (B : Nat) (a : Option Addr) (n : Nat) (f : Nat → Lev) : Prop := n ≤ maxLen ∧ (0 < n → ∃ b off, a = some ⟨b, off, none⟩ ∧ b < B ∧ ∀ i, i < n → LevAt W B b (off + i * 4) (f i))
theorem LevAt.below {W W' : World} {B b o : Nat} {l : Lev} (h : LevAt W B b o l) (hb : Below B W W') (hlt : b < B) : LevAt W' B b o l := by
  obtain ⟨h0, h1, h2, ca, cc, h3, h4⟩ := h
  exact ⟨(hb.cell (p := ⟨b, o, none⟩) hlt).trans h0, (hb.cell (p := ⟨b, o + 1, none⟩) hlt).trans h1, (hb.cell (p := ⟨b, o + 2, none⟩) hlt).trans h2, ca, cc, (hb.cell (p := ⟨b, o + 3, none⟩) hlt).trans h3, h4.below hb⟩
theorem LevsAt.below {W W' : World} {B : Nat} {a : Option Addr} {n : Nat} {f : Nat → Lev} (h : LevsAt W B a n f) (hb : Below B W W') : LevsAt W' B a n f :=
  ⟨h.1, fun hn => by
    obtain ⟨b, off, h1, h2, h3⟩ := h.2 hn
    exact ⟨b, off, h1, h2, fun i hi => (h3 i hi).below hb h2⟩⟩
/-- The bounds that the argument's own form gives. -/
def Wide (n : Nat) (f : Nat → Lev) : Prop := ∀ i, i < n → (f i).vn.size ≤ maxLen ∧ (f i).et.size ≤ maxLen ∧ (f i).ct.length ≤ maxLen ∧ ∀ z ∈ (f i).ct, z.size ≤ maxLen

/-! ### the chain that the law builds -/
structure Rec where
  fs : Nat
  e : Nat
  eg : Nat
  cs : Nat
  cv : Nat
  v : Nat → Nat
  g : Nat → Nat
def fsCells (cond outer ev : Value) (vn : ByteArray) : Array Value := #[.slice none 0 0, .slice none 0 0, cond, outer, ev, .string vn, .slice none 0 0]
def evOf (l : Lev) (r : Rec) : Value := if l.en then .nilIface else vi r.e
structure LevOk (W : World) (E i : Nat) (l : Lev) (r : Rec) (outer : Value) : Prop where
  spec : W.heap[r.fs]? = some (.cells (fsCells (.slice (some ⟨r.cs, 0, none⟩) l.ct.length l.ct.length) outer (evOf l r) l.vn) 39 (0, 0))
  expr : l.en = false → NodeAt W r.e r.eg l.et ((i : Int) + 1) 0
  cv : Row W r.cv 47 l.ct.length (fun j => ptr (r.v j))
  cs : IfRow W r.cs l.ct.length (fun j => vi (r.v j))
  node : ∀ j, j < l.ct.length → NodeAt W (r.v j) (r.g j) (l.tag j) ((i : Int) + 1) ((j : Int) + 1)
  ne : r.cv ≠ E
theorem LevOk.keep {W W' : World} {E i : Nat} {l : Lev} {r : Rec} {outer : Value} (h : LevOk W E i l r outer) (hf : W'.heap[r.fs]? = W.heap[r.fs]?) (hs : W'.heap[r.cs]? = W.heap[r.cs]?) (hv : W'.heap[r.cv]? = W.heap[r.cv]?)
    (hn : ∀ (k : Nat) (c : Array Value) (t : TypeId), W.heap[k]? = some (Obj.cells c t (0, 0)) → (t = 66 ∨ t = 37) → W'.heap[k]? = W.heap[k]?) : LevOk W' E i l r outer :=
  ⟨hf.trans h.spec, fun he => (h.expr he).keep hn, h.cv.keep hv, h.cs.keep hs, fun j hj => (h.node j hj).keep hn, h.ne⟩
def outerOf (n : Nat) (R : Nat → Rec) (i : Nat) : Value := if i + 1 < n then ptr (R (i + 1)).fs else .pointer none
/-- Levels q to n - 1 are laid. -/
structure Built (W : World) (B H E K S q n : Nat) (f : Nat → Lev) (R : Nat → Rec) : Prop where
  heads : Row W H 34 n (fun i => if q ≤ i then ptr (R i).fs else .pointer none)
  exprs : Row W E 47 n (fun i => if q ≤ i ∧ (f i).en = false then ptr (R i).e else .pointer none)
  conds : Row W K 26 n (fun i => if q ≤ i then .slice (some ⟨(R i).cv, 0, none⟩) (f i).ct.length (f i).ct.length else .slice none 0 0)
  slots : Row W S 33 n (fun i => if q ≤ i then .slice (some ⟨(R i).cs, 0, none⟩) (f i).ct.length (f i).ct.length else .slice none 0 0)
  lev : ∀ i, q ≤ i → i < n → LevOk W E i (f i) (R i) (outerOf n R i)
  csLt : ∀ i, q ≤ i → i < n → (R i).cs < W.heap.size
  csGe : ∀ i, q ≤ i → i < n → B ≤ (R i).cs
  inj : ∀ i j, q ≤ i → i < j → j < n → (R i).cs ≠ (R j).cs

end Fr
end Go.Proofs.YtpcoeakcnmeblaaFmt
