/-
  zzBuildChain: the plain steps of one level.
-/
import Derived.Test.YtpcoeakcnmeblaaFmtFrA
namespace Go.Proofs.YtpcoeakcnmeblaaFmt
open Go Go.RowKit
namespace Fr

/-- The same memory. -/
structure Same (w w' : World) : Prop where
  heap : w'.heap = w.heap
  os : w'.os = w.os
  tape : w'.tape = w.tape
  output : w'.output = w.output
theorem Same.kept {S : Nat → Prop} {w w' : World} (h : Same w w') : Kept S w w' := ⟨h.os, h.tape, h.output, by rw [h.heap]; exact Nat.le_refl _, fun b _ _ => by rw [h.heap]⟩
theorem Kept.of_below {S : Nat → Prop} {w w' : World} {B : Nat} (h : Below B w w') (hB : w.heap.size ≤ B) : Kept S w w' := ⟨h.os, h.tape, h.output, h.size, fun b hb _ => h.block b (by omega)⟩
theorem Kept.cell1 (w : World) (b i : Nat) (x : Value) : Kept (fun k => k = b) w (w.setCell ⟨b, i, none⟩ x) := Kept.setCell w ⟨b, i, none⟩ x

structure VarsSt (w0 wr : World) (cs cv m q : Nat) (l : Lev) (i : Nat) (v g : Nat → Nat) : Prop where
  row : Row wr cv 47 m (fun j => if j < q then ptr (v j) else .pointer none)
  ifs : IfRow wr cs m (fun j => if j < q then vi (v j) else .nilIface)
  node : ∀ j, j < q → NodeAt wr (v j) (g j) (l.tag j) ((i : Int) + 1) ((j : Int) + 1)
  kept : Kept (fun b => b = cv ∨ b = cs) w0 wr
theorem VarsSt.step {w0 wr w1 w2 : World} {cs cv m q i b gb : Nat} {l : Lev} {v g : Nat → Nat} (h : VarsSt w0 wr cs cv m q l i v g) (hb : Below wr.heap.size wr w1) (hn : NodeAt w1 b gb (l.tag q) ((i : Int) + 1) ((q : Int) + 1))
    (hw : Same ((w1.setCell ⟨cv, q, none⟩ (ptr b)).setCell ⟨cs, q * 2, none⟩ (vi b)) w2) : VarsSt w0 w2 cs cv m (q + 1) l i (fun j => if j = q then b else v j) (fun j => if j = q then gb else g j) := by
  have hr1 : Row w1 cv 47 m (fun j => if j < q then ptr (v j) else .pointer none) := h.row.keep (hb.block _ h.row.lt)
  have hi1 : IfRow w1 cs m (fun j => if j < q then vi (v j) else .nilIface) := h.ifs.keep (hb.block _ h.ifs.lt)
  have hr1' := hr1
  have hi1' := hi1
  obtain ⟨C, hC, _⟩ := hr1'
  obtain ⟨D, hD, _⟩ := hi1'
  have hne : cv ≠ cs := fun e => by
    rw [e, hD] at hC
    cases hC
  have k2 : Kept (fun b => b = cv ∨ b = cs) w1 w2 :=
    (((Kept.cell1 w1 cv q (ptr b)).mono fun k _ e => Or.inl e).trans ((Kept.cell1 _ cs (q * 2) (vi b)).mono fun k _ e => Or.inr e)).trans hw.kept
  have kn : ∀ (k : Nat) (c : Array Value) (t : TypeId), w1.heap[k]? = some (Obj.cells c t (0, 0)) → (t = 66 ∨ t = 37) → w2.heap[k]? = w1.heap[k]? := fun k c t hk ht =>
    k2.block k (Array.getElem?_eq_some_iff.1 hk).1 (fun e => by
      rcases e with e | e
      · rw [e, hC] at hk
        cases hk
        rcases ht with ht | ht <;> exact absurd ht (by decide)
      · rw [e, hD] at hk
        cases hk
        rcases ht with ht | ht <;> exact absurd ht (by decide))
  refine ⟨?_, ?_, fun j hj => ?_, h.kept.trans ((Kept.ofBelow hb).trans k2)⟩
  · refine ((hr1.set q (ptr b)).keep ?_).congr fun j hj => ?_
    · rw [hw.heap, heap_setCell_other _ _ _ _ (show cv ≠ cs from hne)]
    · by_cases e : j = q
      · subst e
        simp
      · rw [if_neg e]
        by_cases e2 : j < q
        · rw [if_pos e2, if_pos (by omega), if_neg e]
        · rw [if_neg e2, if_neg (by omega)]
  · have hi2 : IfRow (w1.setCell ⟨cv, q, none⟩ (ptr b)) cs m (fun j => if j < q then vi (v j) else .nilIface) := hi1.keep (heap_setCell_other _ _ _ _ (show cs ≠ cv from fun e => hne e.symm))
    refine (hi2.set q (vi b) (by rw [hw.heap])).congr fun j hj => ?_
    by_cases e : j = q
    · subst e
      simp
    · rw [if_neg e]
      by_cases e2 : j < q
      · rw [if_pos e2, if_pos (by omega), if_neg e]
      · rw [if_neg e2, if_neg (by omega)]
  · by_cases e : j = q
    · subst e
      rw [if_pos rfl, if_pos rfl]
      exact hn.keep kn
    · rw [if_neg e, if_neg e]
      exact ((h.node j (by omega)).keep fun k c t hk _ => hb.block k (Array.getElem?_eq_some_iff.1 hk).1).keep kn

/-- The head of the level, with its expression. -/
structure HeadSt (w we : World) (E q n : Nat) (l : Lev) (u : Nat → Value) (fs e eg : Nat) : Prop where
  fresh : w.heap.size ≤ fs
  spec : we.heap[fs]? = some (.cells (fsCells (.slice none 0 0) (.pointer none) (if l.en then .nilIface else vi e) l.vn) 39 (0, 0))
  expr : l.en = false → NodeAt we e eg l.et ((q : Int) + 1) 0
  exprs : Row we E 47 n (fun i => if i = q then (if l.en then .pointer none else ptr e) else u i)
  kept : Kept (fun b => b = E) w we
def newFs (v : ByteArray) : Obj := .cells (fsCells (.slice none 0 0) (.pointer none) .nilIface v) 39 (0, 0)
theorem headA {w wa : World} {l : Lev} (hw : Same ((w.alloc (newFs ⟨#[]⟩)).setCell ⟨w.heap.size, 5, none⟩ (.string l.vn)) wa) : wa.heap[w.heap.size]? = some (newFs l.vn) ∧ Kept (fun _ => False) w wa := by
  have k0 : Kept (fun k => k = w.heap.size) w wa := by
    refine (Kept.mono (S := fun _ => False) ?_ fun k _ e => e.elim).trans (((Kept.cell1 (w.alloc (newFs ⟨#[]⟩)) w.heap.size 5 (.string l.vn)).mono fun _ _ e => e).trans hw.kept)
    exact ⟨rfl, rfl, rfl, by simp, fun b hb _ => Below.heap_alloc w _ b hb⟩
  refine ⟨?_, k0.mono fun k hk e => absurd e (by omega)⟩
  rw [hw.heap]
  exact (Lib.heap_setCell_same (heap_alloc_new w (newFs ⟨#[]⟩)) _).trans (by simp [fsCells, newFs])
theorem head_nil {w wa : World} {E q n : Nat} {l : Lev} {u : Nat → Value} (he : l.en = true) (hu : u q = .pointer none) (hE : Row w E 47 n u) (h1 : wa.heap[w.heap.size]? = some (newFs l.vn)) (h2 : Kept (fun _ => False) w wa) :
    HeadSt w wa E q n l u w.heap.size 0 0 := by
  refine ⟨Nat.le_refl _, (by rw [if_pos he]; exact h1), fun e => (by rw [he] at e; cases e), (hE.keep (h2.block _ hE.lt (fun e => e))).congr fun i hi => ?_, h2.mono fun _ _ e => e.elim⟩
  by_cases e : i = q
  · subst e
    rw [if_pos rfl, if_pos he, hu]
  · rw [if_neg e]
theorem head_var {w wa wb we : World} {E q n b g : Nat} {l : Lev} {u : Nat → Value} (he : l.en = false) (hE : Row w E 47 n u) (h1 : wa.heap[w.heap.size]? = some (newFs l.vn)) (h2 : Kept (fun _ => False) w wa)
    (hb : Below wa.heap.size wa wb) (hn : NodeAt wb b g l.et ((q : Int) + 1) 0) (hw : Same ((wb.setCell ⟨E, q, none⟩ (ptr b)).setCell ⟨w.heap.size, 4, none⟩ (vi b)) we) :
    HeadSt w we E q n l u w.heap.size b g := by
  have hEb : Row wb E 47 n u := (hE.keep (h2.block _ hE.lt (fun e => e))).keep (hb.block _ (Nat.lt_of_lt_of_le hE.lt h2.size))
  have h3 : wb.heap[w.heap.size]? = some (newFs l.vn) := (hb.block _ (Array.getElem?_eq_some_iff.1 h1).1).trans h1
  have hEb' := hEb
  obtain ⟨C, hC, _⟩ := hEb'
  have hne : E ≠ w.heap.size := fun e => by
    have := hE.lt
    omega
  have k2 : Kept (fun k => k = E ∨ k = w.heap.size) wb we :=
    (((Kept.cell1 wb E q (ptr b)).mono fun k _ e => Or.inl e).trans ((Kept.cell1 _ w.heap.size 4 (vi b)).mono fun k _ e => Or.inr e)).trans hw.kept
  refine ⟨Nat.le_refl _, ?_, fun _ => hn.keep fun k c t hk ht => ?_, ?_, ?_⟩
  · have h4 : (wb.setCell ⟨E, q, none⟩ (ptr b)).heap[w.heap.size]? = some (newFs l.vn) := (heap_setCell_other _ _ _ _ (show w.heap.size ≠ E from fun e => hne e.symm)).trans h3
    rw [hw.heap]
    exact (Lib.heap_setCell_same h4 _).trans (by simp [fsCells, he])
  · refine k2.block k (Array.getElem?_eq_some_iff.1 hk).1 (fun e => ?_)
    rcases e with e | e
    · rw [e, hC] at hk
      cases hk
      rcases ht with ht | ht <;> exact absurd ht (by decide)
    · rw [e, h3] at hk
      cases hk
      rcases ht with ht | ht <;> exact absurd ht (by decide)
  · refine ((hEb.set q (ptr b)).keep ?_).congr fun i hi => ?_
    · rw [hw.heap, heap_setCell_other _ _ _ _ (show E ≠ w.heap.size from hne)]
    · rw [he]
      rfl
  · refine ⟨k2.os.trans (hb.os.trans h2.os), k2.tape.trans (hb.tape.trans h2.tape), k2.output.trans (hb.output.trans h2.output), Nat.le_trans h2.size (Nat.le_trans hb.size k2.size), fun k hk hS => ?_⟩
    rw [k2.block k (by have := h2.size; have := hb.size; omega) (fun e => by rcases e with e | e; exact hS e; omega), hb.block k (by have := h2.size; omega)]
    exact h2.block k hk (fun e => e)

def upd (R : Nat → Rec) (q : Nat) (r : Rec) : Nat → Rec := fun k => if k = q then r else R k
def sl (b m : Nat) : Value := .slice (some ⟨b, 0, none⟩) m m
/-- The level's last writes. -/
theorem Built.push {w we w0 wr W3 W4 W' : World} {B H E K S q n fs e eg cs cv : Nat} {f : Nat → Lev} {R : Nat → Rec} {v g : Nat → Nat} (h : Built w B H E K S (q + 1) n f R) (hB : B ≤ w.heap.size) (hq : q < n)
    (hh : HeadSt w we E q n (f q) (fun i => if q + 1 ≤ i ∧ (f i).en = false then ptr (R i).e else .pointer none) fs e eg) (hm : Kept (fun _ => False) we w0) (hcv : we.heap.size ≤ cv) (hcs : we.heap.size ≤ cs) (hv : VarsSt w0 wr cs cv (f q).ct.length (f q).ct.length (f q) q v g)
    (h3 : Same (((wr.setCell ⟨K, q, none⟩ (sl cv (f q).ct.length)).setCell ⟨S, q, none⟩ (sl cs (f q).ct.length)).setCell ⟨fs, 2, none⟩ (sl cs (f q).ct.length)) W3)
    (h4 : Same (W3.setCell ⟨fs, 3, none⟩ (outerOf n R q)) W4 ∨ (W4 = W3 ∧ outerOf n R q = .pointer none)) (h5 : Same (W4.setCell ⟨H, q, none⟩ (ptr fs)) W') :
    Built W' B H E K S q n f (upd R q ⟨fs, e, eg, cs, cv, v, g⟩) := by
  have hwe : w.heap.size ≤ we.heap.size := hh.kept.size
  have hw0 : we.heap.size ≤ w0.heap.size := hm.size
  have hwr : w0.heap.size ≤ wr.heap.size := hv.kept.size
  obtain ⟨CH, hCH, _⟩ := h.heads
  obtain ⟨CE, hCE, _⟩ := h.exprs
  obtain ⟨CK, hCK, _⟩ := h.conds
  obtain ⟨CS, hCS, _⟩ := h.slots
  have lH := h.heads.lt
  have lE := h.exprs.lt
  have lK := h.conds.lt
  have lS := h.slots.lt
  have nHK : H ≠ K := fun e => by rw [e, hCK] at hCH; cases hCH
  have nHS : H ≠ S := fun e => by rw [e, hCS] at hCH; cases hCH
  have nKS : K ≠ S := fun e => by rw [e, hCS] at hCK; cases hCK
  have nEK : E ≠ K := fun e => by rw [e, hCK] at hCE; cases hCE
  have nES : E ≠ S := fun e => by rw [e, hCS] at hCE; cases hCE
  have nEH : E ≠ H := fun e => by rw [e, hCH] at hCE; cases hCE
  have hfs := hh.fresh
  have fsl : fs < we.heap.size := (Array.getElem?_eq_some_iff.1 hh.spec).1
  -- from w to wr
  have kwr : ∀ b, b < w.heap.size → b ≠ E → wr.heap[b]? = w.heap[b]? := fun b hb hE => by
    rw [hv.kept.block b (by omega) (fun e => by rcases e with e | e <;> omega), hm.block b (by omega) (fun e => e)]
    exact hh.kept.block b hb hE
  have kwe : ∀ b, b < we.heap.size → wr.heap[b]? = we.heap[b]? := fun b hb => by
    rw [hv.kept.block b (by omega) (fun e => by rcases e with e | e <;> omega), hm.block b hb (fun e => e)]
  have kfin : Kept (fun b => b = K ∨ b = S ∨ b = fs ∨ b = H) wr W' := by
    have a1 : Kept (fun b => b = K ∨ b = S ∨ b = fs ∨ b = H) wr W3 := ((((Kept.cell1 wr K q _).mono fun k _ e => Or.inl e).trans ((Kept.cell1 _ S q _).mono fun k _ e => Or.inr (Or.inl e))).trans ((Kept.cell1 _ fs 2 _).mono fun k _ e => Or.inr (Or.inr (Or.inl e)))).trans h3.kept
    have a2 : Kept (fun b => b = K ∨ b = S ∨ b = fs ∨ b = H) W3 W4 := by
      rcases h4 with h4 | ⟨rfl, _⟩
      · exact ((Kept.cell1 W3 fs 3 _).mono fun k _ e => Or.inr (Or.inr (Or.inl e))).trans h4.kept
      · exact Kept.refl _ _
    exact (a1.trans a2).trans (((Kept.cell1 W4 H q _).mono fun k _ e => Or.inr (Or.inr (Or.inr e))).trans h5.kept)
  have k34 : ∀ b, b ≠ fs → W4.heap[b]? = W3.heap[b]? := fun b hb => by
    rcases h4 with h4 | ⟨rfl, _⟩
    · rw [h4.heap]
      exact heap_setCell_other _ _ _ _ hb
    · rfl
  have hK : W'.heap[K]? = (wr.setCell ⟨K, q, none⟩ (sl cv (f q).ct.length)).heap[K]? := by
    rw [h5.heap, heap_setCell_other _ _ _ _ (show K ≠ H from fun e => nHK e.symm), k34 K (by omega), h3.heap, heap_setCell_other _ _ _ _ (show K ≠ fs by omega), heap_setCell_other _ _ _ _ (show K ≠ S from nKS)]
  have hS0 : (wr.setCell ⟨K, q, none⟩ (sl cv (f q).ct.length)).heap[S]? = wr.heap[S]? := heap_setCell_other _ _ _ _ (show S ≠ K from fun e => nKS e.symm)
  have hS : W'.heap[S]? = ((wr.setCell ⟨K, q, none⟩ (sl cv (f q).ct.length)).setCell ⟨S, q, none⟩ (sl cs (f q).ct.length)).heap[S]? := by
    rw [h5.heap, heap_setCell_other _ _ _ _ (show S ≠ H from fun e => nHS e.symm), k34 S (by omega), h3.heap, heap_setCell_other _ _ _ _ (show S ≠ fs by omega)]
  have hH4 : W4.heap[H]? = wr.heap[H]? := by
    rw [k34 H (by omega), h3.heap, heap_setCell_other _ _ _ _ (show H ≠ fs by omega), heap_setCell_other _ _ _ _ (show H ≠ S from nHS), heap_setCell_other _ _ _ _ (show H ≠ K from nHK)]
  have hE : W'.heap[E]? = we.heap[E]? := by
    rw [kfin.block E (by omega) (fun e => by rcases e with e | e | e | e; exact nEK e; exact nES e; omega; exact nEH e), kwe E (by omega)]
  have f0 : wr.heap[fs]? = we.heap[fs]? := kwe fs fsl
  have f1 : ((wr.setCell ⟨K, q, none⟩ (sl cv (f q).ct.length)).setCell ⟨S, q, none⟩ (sl cs (f q).ct.length)).heap[fs]? = some (.cells (fsCells (.slice none 0 0) (.pointer none) (if (f q).en then .nilIface else vi e) (f q).vn) 39 (0, 0)) := by
    rw [heap_setCell_other _ _ _ _ (show fs ≠ S by omega), heap_setCell_other _ _ _ _ (show fs ≠ K by omega), f0]
    exact hh.spec
  have f3 : W3.heap[fs]? = some (.cells (fsCells (sl cs (f q).ct.length) (.pointer none) (if (f q).en then .nilIface else vi e) (f q).vn) 39 (0, 0)) := by
    rw [h3.heap]
    exact (Lib.heap_setCell_same f1 _).trans (by simp [fsCells])
  have f4 : W4.heap[fs]? = some (.cells (fsCells (sl cs (f q).ct.length) (outerOf n R q) (if (f q).en then .nilIface else vi e) (f q).vn) 39 (0, 0)) := by
    rcases h4 with h4 | ⟨rfl, h4⟩
    · rw [h4.heap]
      exact (Lib.heap_setCell_same f3 _).trans (by simp [fsCells])
    · rw [f3, h4]
  have f5 : W'.heap[fs]? = some (.cells (fsCells (sl cs (f q).ct.length) (outerOf n R q) (if (f q).en then .nilIface else vi e) (f q).vn) 39 (0, 0)) := by
    rw [h5.heap, heap_setCell_other _ _ _ _ (show fs ≠ H by omega)]
    exact f4
  -- rows of the level
  obtain ⟨CV, hCV, _⟩ := hv.row
  obtain ⟨CI, hCI, _⟩ := hv.ifs
  have kcv : W'.heap[cv]? = wr.heap[cv]? := kfin.block cv hv.row.lt (fun e => by rcases e with e | e | e | e <;> omega)
  have kcs : W'.heap[cs]? = wr.heap[cs]? := kfin.block cs hv.ifs.lt (fun e => by rcases e with e | e | e | e <;> omega)
  have rH : Row wr H 34 n (fun i => if q + 1 ≤ i then ptr (R i).fs else .pointer none) := h.heads.keep (kwr H lH (fun e => nEH e.symm))
  have rK : Row wr K 26 n (fun i => if q + 1 ≤ i then .slice (some ⟨(R i).cv, 0, none⟩) (f i).ct.length (f i).ct.length else .slice none 0 0) := h.conds.keep (kwr K lK (fun e => nEK e.symm))
  have rS : Row wr S 33 n (fun i => if q + 1 ≤ i then .slice (some ⟨(R i).cs, 0, none⟩) (f i).ct.length (f i).ct.length else .slice none 0 0) := h.slots.keep (kwr S lS (fun e => nES e.symm))
  have rH' := rH
  have rK' := rK
  have rS' := rS
  obtain ⟨DH, hDH, _⟩ := rH'
  obtain ⟨DK, hDK, _⟩ := rK'
  obtain ⟨DS, hDS, _⟩ := rS'
  have kn : ∀ (k : Nat) (c : Array Value) (t : TypeId), wr.heap[k]? = some (Obj.cells c t (0, 0)) → (t = 66 ∨ t = 37) → W'.heap[k]? = wr.heap[k]? := fun k c t hk ht =>
    kfin.block k (Array.getElem?_eq_some_iff.1 hk).1 (fun e' => by
      rcases e' with e' | e' | e' | e'
      · rw [e', hDK] at hk
        cases hk
        rcases ht with ht | ht <;> exact absurd ht (by decide)
      · rw [e', hDS] at hk
        cases hk
        rcases ht with ht | ht <;> exact absurd ht (by decide)
      · rw [e', f0, hh.spec] at hk
        cases hk
        rcases ht with ht | ht <;> exact absurd ht (by decide)
      · rw [e', hDH] at hk
        cases hk
        rcases ht with ht | ht <;> exact absurd ht (by decide))
  have knw : ∀ (k : Nat) (c : Array Value) (t : TypeId), w.heap[k]? = some (Obj.cells c t (0, 0)) → (t = 66 ∨ t = 37) → W'.heap[k]? = w.heap[k]? := fun k c t hk ht => by
    have hkE : k ≠ E := fun e' => by
      rw [e', hCE] at hk
      cases hk
      rcases ht with ht | ht <;> exact absurd ht (by decide)
    have h1 := kwr k (Array.getElem?_eq_some_iff.1 hk).1 hkE
    rw [kn k c t (h1.trans hk) ht, h1]
  have oo : ∀ i, q ≤ i → outerOf n (upd R q ⟨fs, e, eg, cs, cv, v, g⟩) i = outerOf n R i := fun i hi => by
    unfold outerOf upd
    by_cases h6 : i + 1 < n
    · rw [if_pos h6, if_pos h6, if_neg (by omega)]
    · rw [if_neg h6, if_neg h6]
  have uq : upd R q ⟨fs, e, eg, cs, cv, v, g⟩ q = ⟨fs, e, eg, cs, cv, v, g⟩ := if_pos rfl
  have un : ∀ i, i ≠ q → upd R q ⟨fs, e, eg, cs, cv, v, g⟩ i = R i := fun i hi => if_neg hi
  refine ⟨?_, ?_, ?_, ?_, fun i h6 h7 => ?_, fun i h6 h7 => ?_, fun i h6 h7 => ?_, fun i j h6 h7 h8 => ?_⟩
  · have r4 : Row W4 H 34 n (fun i => if q + 1 ≤ i then ptr (R i).fs else .pointer none) := rH.keep hH4
    refine ((r4.set q (ptr fs)).keep (by rw [h5.heap])).congr fun i hi => ?_
    by_cases e' : i = q
    · subst e'
      rw [if_pos rfl, if_pos (Nat.le_refl _), uq]
    · rw [if_neg e', un i e']
      by_cases e2 : q + 1 ≤ i
      · rw [if_pos e2, if_pos (by omega)]
      · rw [if_neg e2, if_neg (by omega)]
  · refine (hh.exprs.keep hE).congr fun i hi => ?_
    by_cases e' : i = q
    · subst e'
      rw [if_pos rfl, uq]
      cases he : (f i).en with
      | true => simp
      | false => simp
    · rw [if_neg e', un i e']
      by_cases e2 : q + 1 ≤ i
      · have e3 : q ≤ i := by omega
        simp only [e2, e3, true_and]
      · have e3 : ¬ q ≤ i := by omega
        simp only [e2, e3, false_and]
  · refine ((rK.set q (sl cv (f q).ct.length)).keep hK).congr fun i hi => ?_
    by_cases e' : i = q
    · subst e'
      rw [if_pos rfl, if_pos (Nat.le_refl _), uq]
      rfl
    · rw [if_neg e', un i e']
      by_cases e2 : q + 1 ≤ i
      · rw [if_pos e2, if_pos (by omega)]
      · rw [if_neg e2, if_neg (by omega)]
  · refine (((rS.keep hS0).set q (sl cs (f q).ct.length)).keep hS).congr fun i hi => ?_
    by_cases e' : i = q
    · subst e'
      rw [if_pos rfl, if_pos (Nat.le_refl _), uq]
      rfl
    · rw [if_neg e', un i e']
      by_cases e2 : q + 1 ≤ i
      · rw [if_pos e2, if_pos (by omega)]
      · rw [if_neg e2, if_neg (by omega)]
  · rw [oo i h6]
    by_cases e' : i = q
    · subst e'
      rw [uq]
      refine ⟨f5, fun he => ?_, ?_, ?_, fun j hj => (hv.node j hj).keep kn, fun e2 => by have e2 : cv = E := e2; omega⟩
      · have h8 := hh.expr he
        exact (h8.keep fun k c t hk _ => kwe k (Array.getElem?_eq_some_iff.1 hk).1).keep kn
      · exact (hv.row.keep kcv).congr fun j hj => if_pos hj
      · exact (hv.ifs.keep kcs).congr fun j hj => if_pos hj
    · rw [un i e']
      have hl := h.lev i (by omega) h7
      have l1 := (Array.getElem?_eq_some_iff.1 hl.spec).1
      obtain ⟨C1, hC1, _⟩ := hl.cs
      obtain ⟨C2, hC2, _⟩ := hl.cv
      have hE1 : (R i).fs ≠ E := fun e2 => by
        have h9 := hl.spec
        rw [e2, hCE] at h9
        cases h9
      have hE2 : (R i).cs ≠ E := fun e2 => by
        rw [e2, hCE] at hC1
        cases hC1
      refine hl.keep ?_ ?_ ?_ knw
      · have h9 := hl.spec
        rw [kfin.block _ (by omega) (fun e2 => ?_), kwr _ l1 hE1]
        rcases e2 with e2 | e2 | e2 | e2
        · rw [e2, hCK] at h9; cases h9
        · rw [e2, hCS] at h9; cases h9
        · omega
        · rw [e2, hCH] at h9; cases h9
      · have l2 := (Array.getElem?_eq_some_iff.1 hC1).1
        rw [kfin.block _ (by omega) (fun e2 => ?_), kwr _ l2 hE2]
        rcases e2 with e2 | e2 | e2 | e2
        · rw [e2, hCK] at hC1; cases hC1
        · rw [e2, hCS] at hC1; cases hC1
        · omega
        · rw [e2, hCH] at hC1; cases hC1
      · have l2 := (Array.getElem?_eq_some_iff.1 hC2).1
        rw [kfin.block _ (by omega) (fun e2 => ?_), kwr _ l2 hl.ne]
        rcases e2 with e2 | e2 | e2 | e2
        · rw [e2, hCK] at hC2; cases hC2
        · rw [e2, hCS] at hC2; cases hC2
        · omega
        · rw [e2, hCH] at hC2; cases hC2
  · by_cases e' : i = q
    · subst e'
      rw [uq]
      have := hv.ifs.lt
      have := kfin.size
      show cs < _
      omega
    · rw [un i e']
      have := h.csLt i (by omega) h7
      have := kfin.size
      omega
  · by_cases e' : i = q
    · subst e'
      rw [uq]
      show B ≤ cs
      omega
    · rw [un i e']
      exact h.csGe i (by omega) h7
  · rw [un j (by omega)]
    by_cases e' : i = q
    · subst e'
      rw [uq]
      have := h.csLt j (by omega) h8
      show cs ≠ _
      omega
    · rw [un i e']
      exact h.inj i j (by omega) h7 h8

end Fr
end Go.Proofs.YtpcoeakcnmeblaaFmt
