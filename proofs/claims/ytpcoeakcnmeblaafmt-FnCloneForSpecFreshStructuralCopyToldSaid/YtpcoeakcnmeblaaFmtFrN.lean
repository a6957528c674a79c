/-
  zzCloneLevels (n008_165).
-/
import Derived.Test.YtpcoeakcnmeblaaFmtFrB
import Derived.Test.YtpcoeakcnmeblaaFmtFrL
import Derived.IntWalk
import Derived.OwnWalk
import Derived.Lib.SliceRun
import Derived.Deep.QuietTactic
import Derived.BigQuiet
namespace Go.Proofs.YtpcoeakcnmeblaaFmt
open Go Go.RowKit
namespace Fr

theorem rowMade {w : World} {g n : Nat} {T : TypeId} {z : Value} (hz : z.cells = #[z]) (h : w.ownsRow g T 1 (.slice (some ⟨g, 0, none⟩) n n) n (madeCells z.cells (n * 1)).toList) : Row w g T n (fun _ => z) := by
  rcases h.2 with ⟨hv, _⟩ | ⟨g', cap, cur, hv, _, hh, _⟩
  · cases hv
  · cases hv
    refine ⟨cur, hh, fun i hi => ?_⟩
    have h0 := h.cellAt i (by omega)
    rw [cell_of_row _ _ _ _ _ _ hh] at h0
    rw [h0, hz, Nat.mul_one, toList_madeCells_one, List.getElem?_replicate, if_pos hi]
theorem infoLev : (Tryf.prog.info? 43).map (fun i => (i.zero, i.size, i.bytes)) = some (some (.agg #[.string ⟨#[]⟩, .bool false, .string ⟨#[]⟩, .slice none 0 0]), 4, 64) := by kernel_rfl
def LevNil (C : Array Value) (i : Nat) : Prop := C[i * 4]? = some (.string ⟨#[]⟩) ∧ C[i * 4 + 1]? = some (.bool false) ∧ C[i * 4 + 2]? = some (.string ⟨#[]⟩) ∧ C[i * 4 + 3]? = some (.slice none 0 0)
theorem levMade {w : World} {g n : Nat} (h : w.ownsRow g 43 4 (.slice (some ⟨g, 0, none⟩) n n) n (madeCells (Value.agg #[.string ⟨#[]⟩, .bool false, .string ⟨#[]⟩, .slice none 0 0]).cells (n * 4)).toList) :
    ∃ C : Array Value, w.heap[g]? = some (.cells C 43 (0, 0)) ∧ ∀ i, i < n → LevNil C i := by
  rcases h.2 with ⟨hv, _⟩ | ⟨g', cap, cur, hv, _, hh, _⟩
  · cases hv
  · cases hv
    refine ⟨cur, hh, fun i hi => ?_⟩
    have key : ∀ j, j < 4 → cur[i * 4 + j]? = (#[Value.string ⟨#[]⟩, .bool false, .string ⟨#[]⟩, .slice none 0 0] : Array Value)[j]? := fun j hj => by
      have h0 := h.cellAt (i * 4 + j) (by omega)
      rw [cell_of_row _ _ _ _ _ _ hh] at h0
      have e : (i * 4 + j) % 4 = j := by omega
      have hk : i * 4 + j < n * 4 := by omega
      rw [h0]
      simp only [madeCells, Value.cells, Array.toList_map, Array.toList_range, List.getElem?_map, List.getElem?_range hk, Option.map_some, List.size_toArray, List.length_cons, List.length_nil, Nat.zero_add, Nat.reduceAdd, e]
      match j, hj with
      | 0, _ => rfl
      | 1, _ => rfl
      | 2, _ => rfl
      | 3, _ => rfl
    exact ⟨key 0 (by omega), key 1 (by omega), key 2 (by omega), key 3 (by omega)⟩

/-- A level that is copied. -/
def LevNew (W : World) (C : Array Value) (i : Nat) (l : Lev) : Prop :=
  C[i * 4]? = some (.string l.vn) ∧ C[i * 4 + 1]? = some (.bool l.en) ∧ C[i * 4 + 2]? = some (.string l.et) ∧
    ((l.ct = [] ∧ C[i * 4 + 3]? = some (.slice none 0 0)) ∨ ∃ cb, C[i * 4 + 3]? = some (.slice (some ⟨cb, 0, none⟩) l.ct.length l.ct.length) ∧ Row W cb 9 l.ct.length (fun j => .string (l.tag j)))
structure CopySt (w wr : World) (g n q : Nat) (f : Nat → Lev) : Prop where
  row : ∃ C : Array Value, wr.heap[g]? = some (.cells C 43 (0, 0)) ∧ (∀ i, i < q → LevNew wr C i (f i)) ∧ ∀ i, q ≤ i → i < n → LevNil C i
  below : Below w.heap.size w wr
  ge : w.heap.size ≤ g
theorem LevNew.keep {W W' : World} {C C' : Array Value} {i : Nat} {l : Lev} (h : LevNew W C i l) (hC : ∀ j, j < 4 → C'[i * 4 + j]? = C[i * 4 + j]?) (hk : ∀ (b : Nat) (D : Array Value), W.heap[b]? = some (Obj.cells D 9 (0, 0)) → W'.heap[b]? = W.heap[b]?) : LevNew W' C' i l := by
  obtain ⟨h0, h1, h2, h3⟩ := h
  refine ⟨(hC 0 (by omega)).trans h0, (hC 1 (by omega)).trans h1, (hC 2 (by omega)).trans h2, ?_⟩
  rcases h3 with ⟨e, h3⟩ | ⟨cb, h3, D, hD, hd⟩
  · exact .inl ⟨e, (hC 3 (by omega)).trans h3⟩
  · exact .inr ⟨cb, (hC 3 (by omega)).trans h3, D, (hk cb D hD).trans hD, hd⟩
def set3 (C : Array Value) (q : Nat) (l : Lev) : Array Value := ((C.setIfInBounds (q * 4) (.string l.vn)).setIfInBounds (q * 4 + 1) (.bool l.en)).setIfInBounds (q * 4 + 2) (.string l.et)
theorem set3_other (C : Array Value) (q : Nat) (l : Lev) (k : Nat) (h : k < q * 4 ∨ q * 4 + 3 ≤ k) : (set3 C q l)[k]? = C[k]? := by
  unfold set3
  rw [Array.getElem?_setIfInBounds_ne (by omega), Array.getElem?_setIfInBounds_ne (by omega), Array.getElem?_setIfInBounds_ne (by omega)]
theorem set3_at {C : Array Value} {q : Nat} (l : Lev) (h : LevNil C q) : (set3 C q l)[q * 4]? = some (.string l.vn) ∧ (set3 C q l)[q * 4 + 1]? = some (.bool l.en) ∧ (set3 C q l)[q * 4 + 2]? = some (.string l.et) := by
  have h2 := (Array.getElem?_eq_some_iff.1 h.2.2.1).1
  unfold set3
  refine ⟨?_, ?_, ?_⟩
  · rw [Array.getElem?_setIfInBounds_ne (by omega), Array.getElem?_setIfInBounds_ne (by omega), Array.getElem?_setIfInBounds_self, if_pos (by omega)]
  · rw [Array.getElem?_setIfInBounds_ne (by omega), Array.getElem?_setIfInBounds_self, if_pos (by simp; omega)]
  · rw [Array.getElem?_setIfInBounds_self, if_pos (by simp; omega)]
theorem three {w w3 : World} {g q : Nat} {C : Array Value} {l : Lev} (hC : w.heap[g]? = some (.cells C 43 (0, 0)))
    (h3 : Same (((w.setCell ⟨g, q * 4, none⟩ (.string l.vn)).setCell ⟨g, q * 4 + 1, none⟩ (.bool l.en)).setCell ⟨g, q * 4 + 2, none⟩ (.string l.et)) w3) :
    w3.heap[g]? = some (.cells (set3 C q l) 43 (0, 0)) ∧ Kept (fun b => b = g) w w3 := by
  refine ⟨?_, (((Kept.cell1 w g (q * 4) _).trans (Kept.cell1 _ g (q * 4 + 1) _)).trans (Kept.cell1 _ g (q * 4 + 2) _)).trans h3.kept⟩
  rw [h3.heap]
  exact Lib.heap_setCell_same (Lib.heap_setCell_same (Lib.heap_setCell_same hC _) _) _
theorem CopySt.step {w wr w3 w' : World} {g n q : Nat} {f : Nat → Lev} (h : CopySt w wr g n q f) (hq : q < n)
    (h3 : Same (((wr.setCell ⟨g, q * 4, none⟩ (.string (f q).vn)).setCell ⟨g, q * 4 + 1, none⟩ (.bool (f q).en)).setCell ⟨g, q * 4 + 2, none⟩ (.string (f q).et)) w3)
    (hc : ((f q).ct = [] ∧ w' = w3) ∨ ∃ w5 cb, Kept (fun _ => False) w3 w5 ∧ w3.heap.size ≤ cb ∧ Row w5 cb 9 (f q).ct.length (fun j => .string ((f q).tag j)) ∧ Same (w5.setCell ⟨g, q * 4 + 3, none⟩ (.slice (some ⟨cb, 0, none⟩) (f q).ct.length (f q).ct.length)) w') :
    CopySt w w' g n (q + 1) f := by
  obtain ⟨⟨C, hC, h1, h2⟩, hb, hg⟩ := h
  obtain ⟨k1, k2⟩ := three hC h3
  obtain ⟨t0, t1, t2⟩ := set3_at (f q) (h2 q (Nat.le_refl _) hq)
  have tn : ∀ i, i ≠ q → ∀ j, j < 4 → (set3 C q (f q))[i * 4 + j]? = C[i * 4 + j]? := fun i hi j hj => set3_other C q _ _ (by omega)
  have hgl : g < wr.heap.size := (Array.getElem?_eq_some_iff.1 hC).1
  have b3 : Below w.heap.size w w3 := hb.trans (k2.below (fun k e => by subst e; exact hg) hb.size)
  have ks : ∀ (b : Nat) (D : Array Value), wr.heap[b]? = some (Obj.cells D 9 (0, 0)) → w3.heap[b]? = wr.heap[b]? := fun b D hD => k2.block b (Array.getElem?_eq_some_iff.1 hD).1 (fun e => by
    have e : b = g := e
    rw [e, hC] at hD
    cases hD)
  rcases hc with ⟨e, rfl⟩ | ⟨w5, cb, c1, c2, c3, c4⟩
  · refine ⟨⟨_, k1, fun i hi => ?_, fun i hi hn => ?_⟩, b3, hg⟩
    · by_cases e2 : i = q
      · subst e2
        refine ⟨t0, t1, t2, .inl ⟨e, ?_⟩⟩
        rw [set3_other C i _ _ (by omega)]
        exact (h2 i (Nat.le_refl _) hq).2.2.2
      · exact (h1 i (by omega)).keep (tn i e2) ks
    · obtain ⟨a0, a1, a2, a3⟩ := h2 i (by omega) hn
      exact ⟨(tn i (by omega) 0 (by omega)).trans a0, (tn i (by omega) 1 (by omega)).trans a1, (tn i (by omega) 2 (by omega)).trans a2, (tn i (by omega) 3 (by omega)).trans a3⟩
  · have k5 : w5.heap[g]? = some (.cells (set3 C q (f q)) 43 (0, 0)) := (c1.block g (Array.getElem?_eq_some_iff.1 k1).1 (fun e => e)).trans k1
    have k6 : Kept (fun b => b = g) w5 w' := (Kept.cell1 w5 g (q * 4 + 3) _).trans c4.kept
    have k7 : w'.heap[g]? = some (.cells ((set3 C q (f q)).setIfInBounds (q * 4 + 3) (.slice (some ⟨cb, 0, none⟩) (f q).ct.length (f q).ct.length)) 43 (0, 0)) := by
      rw [c4.heap]
      exact Lib.heap_setCell_same k5 _
    have hcg : cb ≠ g := by
      have := (Array.getElem?_eq_some_iff.1 k1).1
      omega
    have tn2 : ∀ i, i ≠ q → ∀ j, j < 4 → ((set3 C q (f q)).setIfInBounds (q * 4 + 3) (.slice (some ⟨cb, 0, none⟩) (f q).ct.length (f q).ct.length))[i * 4 + j]? = C[i * 4 + j]? := fun i hi j hj => by
      rw [Array.getElem?_setIfInBounds_ne (by omega)]
      exact tn i hi j hj
    have z3 := (Array.getElem?_eq_some_iff.1 (h2 q (Nat.le_refl _) hq).2.2.2).1
    refine ⟨⟨_, k7, fun i hi => ?_, fun i hi hn => ?_⟩, (b3.trans (c1.below (fun _ e => e.elim) b3.size)).trans (k6.below (fun k e => by subst e; exact hg) (Nat.le_trans b3.size c1.size)), hg⟩
    · by_cases e2 : i = q
      · subst e2
        refine ⟨?_, ?_, ?_, .inr ⟨cb, ?_, c3.keep (k6.block cb c3.lt hcg)⟩⟩
        · rw [Array.getElem?_setIfInBounds_ne (by omega)]; exact t0
        · rw [Array.getElem?_setIfInBounds_ne (by omega)]; exact t1
        · rw [Array.getElem?_setIfInBounds_ne (by omega)]; exact t2
        · rw [Array.getElem?_setIfInBounds_self, if_pos (by simp [set3]; exact z3)]
      · refine (h1 i (by omega)).keep (tn2 i e2) (fun b D hD => ?_)
        have e3 := (ks b D hD).trans hD
        have e4 := (c1.block b (Array.getElem?_eq_some_iff.1 e3).1 (fun e => e)).trans e3
        rw [hD, k6.block b (Array.getElem?_eq_some_iff.1 e4).1 (fun e => ?_), e4]
        have e : b = g := e
        rw [e, k5] at e4
        cases e4
    · obtain ⟨a0, a1, a2, a3⟩ := h2 i (by omega) hn
      exact ⟨(tn2 i (by omega) 0 (by omega)).trans a0, (tn2 i (by omega) 1 (by omega)).trans a1, (tn2 i (by omega) 2 (by omega)).trans a2, (tn2 i (by omega) 3 (by omega)).trans a3⟩
theorem CopySt.done {w wr : World} {g n : Nat} {f : Nat → Lev} (h : CopySt w wr g n n f) (hn : n ≤ maxLen) (hl : ∀ i, i < n → (f i).ct.length ≤ maxLen) : LevsAt wr wr.heap.size (some ⟨g, 0, none⟩) n f ∧ Below w.heap.size w wr := by
  obtain ⟨⟨C, hC, h1, _⟩, hb, _⟩ := h
  refine ⟨⟨hn, fun _ => ⟨g, 0, rfl, (Array.getElem?_eq_some_iff.1 hC).1, fun i hi => ?_⟩⟩, hb⟩
  obtain ⟨a0, a1, a2, a3⟩ := h1 i hi
  refine ⟨?_, ?_, ?_, ?_⟩
  · rw [cell_of_row wr g _ _ _ _ hC, Nat.zero_add]; exact a0
  · rw [cell_of_row wr g _ _ _ _ hC, Nat.zero_add]; exact a1
  · rw [cell_of_row wr g _ _ _ _ hC, Nat.zero_add]; exact a2
  · rcases a3 with ⟨e, a3⟩ | ⟨cb, a3, D, hD, hd⟩
    · refine ⟨none, 0, ?_, ?_⟩
      · rw [cell_of_row wr g _ _ _ _ hC, Nat.zero_add, e]; exact a3
      · rw [e]; exact .isNil
    · refine ⟨some ⟨cb, 0, none⟩, (f i).ct.length, ?_, .isAt cb 0 _ _ (Array.getElem?_eq_some_iff.1 hD).1 (hl i hi) (fun j hj => ?_)⟩
      · rw [cell_of_row wr g _ _ _ _ hC, Nat.zero_add]; exact a3
      · rw [cell_of_row wr cb _ _ _ _ hD, Nat.zero_add]
        exact hd j hj

end Fr
end Go.Proofs.YtpcoeakcnmeblaaFmt
