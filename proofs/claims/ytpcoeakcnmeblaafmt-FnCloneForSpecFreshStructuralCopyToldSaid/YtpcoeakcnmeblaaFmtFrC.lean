/-
  cloneForSpec: the chain's heads and expressions are new, the conditions' rows are shared and hold new nodes.
-/
import Derived.Test.YtpcoeakcnmeblaaFmtFrA
namespace Go.Proofs.YtpcoeakcnmeblaaFmt
open Go Go.RowKit
namespace Fr

/-- The conditions of one level: q of them cloned. -/
structure CondSt (B i : Nat) (l : Lev) (r : Rec) (w wr : World) (q : Nat) (u : Nat → Value) : Prop where
  row : IfRow wr r.cs l.ct.length (fun j => if j < q then u j else vi (r.v j))
  new : ∀ j, j < q → CopyAt B wr (u j) (l.tag j) ((i : Int) + 1) ((j : Int) + 1)
  node : ∀ j, j < l.ct.length → NodeAt wr (r.v j) (r.g j) (l.tag j) ((i : Int) + 1) ((j : Int) + 1)
  kept : Kept (fun k => k = r.cs) w wr
  base : B ≤ w.heap.size
theorem CondSt.step {B i : Nat} {l : Lev} {r : Rec} {w wr w' : World} {q : Nat} {u : Nat → Value} {e : Ending} (h : CondSt B i l r w wr q u) (hq : q < l.ct.length) (hc : CloneAt ⟨r.cs, q * 2, none⟩ (leafOf (r.g q) (l.tag q) ((i : Int) + 1) ((q : Int) + 1)) wr e w') :
    ∃ u', CondSt B i l r w w' (q + 1) u' := by
  obtain ⟨_, v', s1, n1⟩ := hc
  obtain ⟨C, hb, hC⟩ := h.row
  have hk : ∀ (k : Nat) (c : Array Value) (t : TypeId), wr.heap[k]? = some (Obj.cells c t (0, 0)) → (t = 66 ∨ t = 37) → w'.heap[k]? = wr.heap[k]? := fun k c t hi ht =>
    s1.kept.block k (Array.getElem?_eq_some_iff.1 hi).1 (fun e => by
      have e : k = r.cs := e
      rw [e, hb] at hi
      cases hi
      rcases ht with ht | ht <;> exact absurd ht (by decide))
  refine ⟨fun j => if j = q then v' else u j, (h.row.set q v' s1.self).congr fun j hj => ?_, fun j hj => ?_, fun j hj => (h.node j hj).keep hk, h.kept.trans s1.kept, h.base⟩
  · by_cases e : j = q
    · subst e
      rw [if_pos rfl, if_pos (by omega), if_pos rfl]
    · rw [if_neg e]
      by_cases e2 : j < q
      · rw [if_pos e2, if_pos (by omega), if_neg e]
      · rw [if_neg e2, if_neg (by omega)]
  · by_cases e : j = q
    · subst e
      rw [if_pos rfl]
      exact (copy_of_leaf n1).lower (Nat.le_trans h.base h.kept.size)
    · rw [if_neg e]
      exact (h.new j (by omega)).keep hk

/-- What cloneForSpec finds: a head sb for level i, the rest as the law built it. -/
structure ChainPre (w : World) (E sb i n : Nat) (f : Nat → Lev) (R : Nat → Rec) : Prop where
  spec : w.heap[sb]? = some (.cells (fsCells (.slice (some ⟨(R i).cs, 0, none⟩) (f i).ct.length (f i).ct.length) (outerOf n R i) (evOf (f i) (R i)) (f i).vn) 39 (0, 0))
  lev : ∀ k, i ≤ k → k < n → LevOk w E k (f k) (R k) (outerOf n R k)
  ne : ∀ k, i ≤ k → k < n → (R k).fs ≠ sb
  inj : ∀ k j, i ≤ k → k < j → j < n → (R k).cs ≠ (R j).cs
  len : ∀ k, i ≤ k → k < n → (f k).ct.length ≤ 1048576
def newOuter (n : Nat) (Sb : Nat → Nat) (i : Nat) : Value := if i + 1 < n then ptr (Sb (i + 1)) else .pointer none
/-- What it leaves. -/
structure ChainPost (w w' : World) (sb i n : Nat) (f : Nat → Lev) (R : Nat → Rec) (Sb : Nat → Nat) (ev : Nat → Value) (cu : Nat → Nat → Value) : Prop where
  head : Sb i = sb
  new : ∀ k, i < k → k < n → w.heap.size ≤ Sb k
  spec : ∀ k, i ≤ k → k < n → w'.heap[Sb k]? = some (.cells (fsCells (.slice (some ⟨(R k).cs, 0, none⟩) (f k).ct.length (f k).ct.length) (newOuter n Sb k) (ev k) (f k).vn) 39 (0, 0))
  nil : ∀ k, i ≤ k → k < n → (f k).en = true → ev k = .nilIface
  expr : ∀ k, i ≤ k → k < n → (f k).en = false → CopyAt w.heap.size w' (ev k) (f k).et ((k : Int) + 1) 0
  row : ∀ k, i ≤ k → k < n → IfRow w' (R k).cs (f k).ct.length (cu k)
  cond : ∀ k, i ≤ k → k < n → ∀ j, j < (f k).ct.length → CopyAt w.heap.size w' (cu k j) ((f k).tag j) ((k : Int) + 1) ((j : Int) + 1)
  kept : Kept (fun b => b = sb ∨ ∃ k, i ≤ k ∧ k < n ∧ b = (R k).cs) w w'

def leafE (l : Lev) (r : Rec) (i : Nat) : Leaf := if l.en then .nil else leafOf r.eg l.et ((i : Int) + 1) 0
theorem LevOk.leaf {W : World} {E i : Nat} {l : Lev} {r : Rec} {outer : Value} (h : LevOk W E i l r outer) : LeafAt W (evOf l r) (leafE l r i) := by
  unfold evOf leafE
  cases he : l.en with
  | true => rfl
  | false => exact (h.expr he).leaf
theorem LevOk.kept {w w1 : World} {E i : Nat} {l : Lev} {r : Rec} {outer : Value} {S : Nat → Prop} (h : LevOk w E i l r outer) (hk : Kept S w w1) (hf : ¬ S r.fs) (hs : ¬ S r.cs) (hS : ∀ k, S k → k < w.heap.size → ∃ c t, w.heap[k]? = some (Obj.cells c t (0, 0)) ∧ t ≠ 66 ∧ t ≠ 37 ∧ t ≠ 47) : LevOk w1 E i l r outer := by
  obtain ⟨C, hc, _⟩ := h.cv
  obtain ⟨D, hd, _⟩ := h.cs
  refine h.keep (hk.block _ (Array.getElem?_eq_some_iff.1 h.spec).1 hf) (hk.block _ (Array.getElem?_eq_some_iff.1 hd).1 hs) (hk.block _ (Array.getElem?_eq_some_iff.1 hc).1 (fun e => ?_)) (fun k c t hb ht => hk.block k (Array.getElem?_eq_some_iff.1 hb).1 (fun e => ?_))
  · obtain ⟨c, t, h1, _, _, h4⟩ := hS _ e (Array.getElem?_eq_some_iff.1 hc).1
    rw [hc] at h1
    cases h1
    exact h4 rfl
  · obtain ⟨c2, t2, h1, h2, h3, _⟩ := hS _ e (Array.getElem?_eq_some_iff.1 hb).1
    rw [hb] at h1
    cases h1
    rcases ht with ht | ht
    · exact h2 ht
    · exact h3 ht
/-- The head after its expression is cloned. -/
theorem ChainPre.first {w w1 : World} {E sb i n : Nat} {f : Nat → Lev} {R : Nat → Rec} {e : Ending} (h : ChainPre w E sb i n f R) (hi : i < n) (hc : CloneAt ⟨sb, 4, none⟩ (leafE (f i) (R i) i) w e w1) :
    ∃ ev, w1.heap[sb]? = some (.cells (fsCells (.slice (some ⟨(R i).cs, 0, none⟩) (f i).ct.length (f i).ct.length) (outerOf n R i) ev (f i).vn) 39 (0, 0)) ∧ ((f i).en = true → ev = .nilIface) ∧ ((f i).en = false → CopyAt w.heap.size w1 ev (f i).et ((i : Int) + 1) 0) ∧ Kept (fun b => b = sb) w w1 ∧ ∀ k, i ≤ k → k < n → LevOk w1 E k (f k) (R k) (outerOf n R k) := by
  obtain ⟨_, v', s1, n1⟩ := hc
  refine ⟨v', ?_, fun he => ?_, fun he => ?_, s1.kept, fun k h1 h2 => (h.lev k h1 h2).kept s1.kept (h.ne k h1 h2) (fun e => ?_) (fun b e _ => ?_)⟩
  · exact s1.self.trans ((Lib.heap_setCell_same h.spec _).trans (by simp [fsCells]))
  · rw [leafE, if_pos he] at n1
    exact n1
  · rw [leafE, if_neg (by simp [he])] at n1
    exact copy_of_leaf n1
  · obtain ⟨D, hd, _⟩ := (h.lev k h1 h2).cs
    have e : (R k).cs = sb := e
    rw [e, h.spec] at hd
    cases hd
  · have e : b = sb := e
    subst e
    exact ⟨_, _, h.spec, by decide, by decide, by decide⟩
/-- .. and a new head for the next level. -/
theorem ChainPre.next {w w1 X : World} {E sb i n : Nat} {f : Nat → Lev} {R : Nat → Rec} {ev : Value} (h : ChainPre w E sb i n f R) (hi : i + 1 < n)
    (h1 : w1.heap[sb]? = some (.cells (fsCells (.slice (some ⟨(R i).cs, 0, none⟩) (f i).ct.length (f i).ct.length) (outerOf n R i) ev (f i).vn) 39 (0, 0))) (hl : ∀ k, i ≤ k → k < n → LevOk w1 E k (f k) (R k) (outerOf n R k))
    (hXn : X.heap[w1.heap.size]? = some (.cells (fsCells (.slice (some ⟨(R (i + 1)).cs, 0, none⟩) (f (i + 1)).ct.length (f (i + 1)).ct.length) (outerOf n R (i + 1)) (evOf (f (i + 1)) (R (i + 1))) (f (i + 1)).vn) 39 (0, 0)))
    (k1 : Kept (fun b => b = sb) w1 X) :
    ChainPre X E w1.heap.size (i + 1) n f R ∧ ∀ k, i ≤ k → k < n → LevOk X E k (f k) (R k) (outerOf n R k) := by
  have hne : ∀ k, i ≤ k → k < n → (R k).cs ≠ sb := fun k h2 h3 e => by
    obtain ⟨D, hd, _⟩ := (hl k h2 h3).cs
    rw [e, h1] at hd
    cases hd
  have hL : ∀ k, i ≤ k → k < n → LevOk X E k (f k) (R k) (outerOf n R k) := fun k h2 h3 => (hl k h2 h3).kept k1 (h.ne k h2 h3) (hne k h2 h3) (fun b e _ => by
    have e : b = sb := e
    subst e
    exact ⟨_, _, h1, by decide, by decide, by decide⟩)
  refine ⟨⟨hXn, fun k h2 h3 => hL k (by omega) h3, fun k h2 h3 e => ?_, fun k j h2 h3 h4 => h.inj k j (by omega) h3 h4, fun k h2 h3 => h.len k (by omega) h3⟩, hL⟩
  have := (Array.getElem?_eq_some_iff.1 (hl k (by omega) h3).spec).1
  omega
/-- The start of the conditions' loop. -/
theorem condStart {B i : Nat} {l : Lev} {r : Rec} {E : Nat} {outer : Value} {w : World} (h : LevOk w E i l r outer) (hB : B ≤ w.heap.size) : CondSt B i l r w w 0 (fun _ => .nilIface) :=
  ⟨h.cs.congr fun j _ => by rw [if_neg (Nat.not_lt_zero j)], fun j hj => absurd hj (Nat.not_lt_zero j), h.node, Kept.refl _ _, hB⟩

/-- The last level. -/
theorem chain_last {w w1 w2 : World} {E sb i n : Nat} {f : Nat → Lev} {R : Nat → Rec} {ev : Value} {u : Nat → Value} (h : ChainPre w E sb i n f R) (hi : i + 1 = n)
    (h1 : w1.heap[sb]? = some (.cells (fsCells (.slice (some ⟨(R i).cs, 0, none⟩) (f i).ct.length (f i).ct.length) (outerOf n R i) ev (f i).vn) 39 (0, 0))) (hen : (f i).en = true → ev = .nilIface) (hex : (f i).en = false → CopyAt w.heap.size w1 ev (f i).et ((i : Int) + 1) 0)
    (hk : Kept (fun b => b = sb) w w1) (hl : LevOk w1 E i (f i) (R i) (outerOf n R i)) (hc : CondSt w.heap.size i (f i) (R i) w1 w2 (f i).ct.length u) :
    ∃ Sb ev' cu, ChainPost w w2 sb i n f R Sb ev' cu := by
  obtain ⟨D, hd, _⟩ := hl.cs
  have hne : sb ≠ (R i).cs := fun e => by
    rw [← e, h1] at hd
    cases hd
  have hkk : ∀ k, i ≤ k → k < n → k = i := fun k h2 h3 => by omega
  have hn2 : ∀ (k : Nat) (c : Array Value) (t : TypeId), w1.heap[k]? = some (Obj.cells c t (0, 0)) → (t = 66 ∨ t = 37) → w2.heap[k]? = w1.heap[k]? := fun k c t hb ht =>
    hc.kept.block k (Array.getElem?_eq_some_iff.1 hb).1 (fun e => by
      have e : k = (R i).cs := e
      rw [e, hd] at hb
      cases hb
      rcases ht with ht | ht <;> exact absurd ht (by decide))
  refine ⟨fun _ => sb, fun _ => ev, fun _ => u, rfl, fun k h2 h3 => by omega, fun k h2 h3 => ?_, fun k h2 h3 he => ?_, fun k h2 h3 he => ?_, fun k h2 h3 => ?_, fun k h2 h3 j hj => ?_, ?_⟩
  · obtain rfl := hkk k h2 h3
    have e1 : newOuter n (fun _ => sb) k = outerOf n R k := by rw [newOuter, outerOf, if_neg (by omega), if_neg (by omega)]
    rw [e1]
    exact (hc.kept.block sb (Array.getElem?_eq_some_iff.1 h1).1 hne).trans h1
  · obtain rfl := hkk k h2 h3
    exact hen he
  · obtain rfl := hkk k h2 h3
    exact (hex he).keep hn2
  · obtain rfl := hkk k h2 h3
    exact hc.row.congr fun j hj => by rw [if_pos hj]
  · obtain rfl := hkk k h2 h3
    exact hc.new j hj
  · refine (hk.mono fun b _ e => Or.inl e).trans (hc.kept.mono fun b _ e => Or.inr ⟨i, Nat.le_refl _, by omega, e⟩)
/-- A level with others behind it. -/
theorem chain_more {w w1 X w2 w3 : World} {E sb i n : Nat} {f : Nat → Lev} {R : Nat → Rec} {ev : Value} {u : Nat → Value} {Sb : Nat → Nat} {ev' : Nat → Value} {cu : Nat → Nat → Value} (h : ChainPre w E sb i n f R) (hi : i + 1 < n)
    (hws : w.heap.size ≤ w1.heap.size) (hXs : X.heap.size = w1.heap.size + 1)
    (h1 : X.heap[sb]? = some (.cells (fsCells (.slice (some ⟨(R i).cs, 0, none⟩) (f i).ct.length (f i).ct.length) (ptr w1.heap.size) ev (f i).vn) 39 (0, 0))) (hen : (f i).en = true → ev = .nilIface) (hex : (f i).en = false → CopyAt w.heap.size X ev (f i).et ((i : Int) + 1) 0)
    (hk : Kept (fun b => b = sb) w X) (hl : ∀ k, i ≤ k → k < n → LevOk X E k (f k) (R k) (outerOf n R k)) (hsb : sb < w1.heap.size) (hp0 : ∃ c0, X.heap[w1.heap.size]? = some (.cells c0 39 (0, 0))) (hp : ChainPost X w2 w1.heap.size (i + 1) n f R Sb ev' cu) (hc : CondSt w.heap.size i (f i) (R i) w2 w3 (f i).ct.length u) :
    ∃ Sb ev' cu, ChainPost w w3 sb i n f R Sb ev' cu := by
  obtain ⟨D, hd, _⟩ := (hl i (Nat.le_refl _) (by omega)).cs
  have hne : sb ≠ (R i).cs := fun e => by
    rw [← e, h1] at hd
    cases hd
  have csX : ∀ k, i ≤ k → k < n → ∃ D, X.heap[(R k).cs]? = some (.cells D 46 (0, 0)) := fun k h2 h3 => by
    obtain ⟨D, hd, _⟩ := (hl k h2 h3).cs
    exact ⟨D, hd⟩
  have hcs : ∀ k, i < k → k < n → (R k).cs ≠ (R i).cs := fun k h2 h3 e => h.inj i k (Nat.le_refl _) h2 h3 e.symm
  -- the row of level i is as it was behind the other levels' run
  have hdi : w2.heap[(R i).cs]? = X.heap[(R i).cs]? := hp.kept.block _ (Array.getElem?_eq_some_iff.1 hd).1 (fun e => by
    rcases e with e | ⟨k, h2, h3, e⟩
    · have := (Array.getElem?_eq_some_iff.1 (hl i (Nat.le_refl _) (by omega)).spec).1
      obtain ⟨D', hd'⟩ := csX i (Nat.le_refl _) (by omega)
      have h6 := hp.spec (i + 1) (Nat.le_refl _) (by omega)
      have h7 : (R i).cs < w1.heap.size := by
        obtain ⟨D2, hd2, _⟩ := (h.lev i (Nat.le_refl _) (by omega)).cs
        have := (Array.getElem?_eq_some_iff.1 hd2).1
        omega
      omega
    · exact hcs k (by omega) h3 e.symm)
  have hsb2 : w2.heap[sb]? = X.heap[sb]? := hp.kept.block _ (by omega) (fun e => by
    rcases e with e | ⟨k, h2, h3, e⟩
    · omega
    · obtain ⟨D', hd'⟩ := csX k (by omega) h3
      rw [← e, h1] at hd'
      cases hd')
  have h2n : ∀ (k : Nat) (c : Array Value) (t : TypeId), w2.heap[k]? = some (Obj.cells c t (0, 0)) → t ≠ 46 → w3.heap[k]? = w2.heap[k]? := fun k c t hb ht =>
    hc.kept.block k (Array.getElem?_eq_some_iff.1 hb).1 (fun e => by
      have e : k = (R i).cs := e
      rw [e, hdi, hd] at hb
      cases hb
      exact ht rfl)
  have h2v : ∀ (k : Nat) (c : Array Value) (t : TypeId), w2.heap[k]? = some (Obj.cells c t (0, 0)) → (t = 66 ∨ t = 37) → w3.heap[k]? = w2.heap[k]? := fun k c t hb ht => h2n k c t hb (by rcases ht with rfl | rfl <;> decide)
  have hXv : ∀ (k : Nat) (c : Array Value) (t : TypeId), X.heap[k]? = some (Obj.cells c t (0, 0)) → (t = 66 ∨ t = 37) → w2.heap[k]? = X.heap[k]? := fun k c t hb ht =>
    hp.kept.block k (Array.getElem?_eq_some_iff.1 hb).1 (fun e => by
      rcases e with e | ⟨k', h2, h3, e⟩
      · obtain ⟨c0, hc0⟩ : ∃ c0, X.heap[w1.heap.size]? = some (.cells c0 39 (0, 0)) := hp0
        rw [e, hc0] at hb
        cases hb
        rcases ht with ht | ht <;> exact absurd ht (by decide)
      · obtain ⟨D', hd'⟩ := csX k' (by omega) h3
        rw [e, hd'] at hb
        cases hb
        rcases ht with ht | ht <;> exact absurd ht (by decide))
  refine ⟨fun k => if k = i then sb else Sb k, fun k => if k = i then ev else ev' k, fun k => if k = i then u else cu k, by simp, fun k h2 h3 => ?_, fun k h2 h3 => ?_, fun k h2 h3 he => ?_, fun k h2 h3 he => ?_, fun k h2 h3 => ?_, fun k h2 h3 j hj => ?_, ?_⟩
  · rw [if_neg (by omega)]
    by_cases e : k = i + 1
    · rw [e, hp.head]; exact hws
    · have := hp.new k (by omega) h3
      omega
  · by_cases e : k = i
    · subst e
      have e1 : newOuter n (fun j => if j = k then sb else Sb j) k = ptr w1.heap.size := by
        rw [newOuter, if_pos (by omega), if_neg (by omega), hp.head]
      rw [if_pos rfl, if_pos rfl, e1, h2n sb _ _ (hsb2.trans h1) (by decide)]
      exact hsb2.trans h1
    · have e1 : newOuter n (fun j => if j = i then sb else Sb j) k = newOuter n Sb k := by
        unfold newOuter
        by_cases h5 : k + 1 < n
        · rw [if_pos h5, if_pos h5]
          show ptr (if k + 1 = i then sb else Sb (k + 1)) = _
          rw [if_neg (by omega)]
        · rw [if_neg h5, if_neg h5]
      rw [if_neg e, if_neg e, e1, h2n _ _ _ (hp.spec k (by omega) h3) (by decide)]
      exact hp.spec k (by omega) h3
  · by_cases e : k = i
    · subst e
      rw [if_pos rfl]
      exact hen he
    · rw [if_neg e]
      exact hp.nil k (by omega) h3 he
  · by_cases e : k = i
    · subst e
      rw [if_pos rfl]
      exact ((hex he).keep hXv).keep h2v
    · rw [if_neg e]
      exact ((hp.expr k (by omega) h3 he).keep h2v).lower (by omega)
  · by_cases e : k = i
    · subst e
      rw [if_pos rfl]
      exact hc.row.congr fun j hj => by rw [if_pos hj]
    · rw [if_neg e]
      have hr := hp.row k (by omega) h3
      have hr2 := hr
      obtain ⟨D', hd', _⟩ := hr2
      exact hr.keep (hc.kept.block _ (Array.getElem?_eq_some_iff.1 hd').1 (hcs k (by omega) h3))
  · by_cases e : k = i
    · subst e
      rw [if_pos rfl]
      exact hc.new j hj
    · rw [if_neg e]
      exact ((hp.cond k (by omega) h3 j hj).keep h2v).lower (by omega)
  · have k2 : Kept (fun b => b = sb ∨ ∃ k, i ≤ k ∧ k < n ∧ b = (R k).cs) w w2 := by
      refine ⟨hp.kept.os.trans hk.os, hp.kept.tape.trans hk.tape, hp.kept.output.trans hk.output, Nat.le_trans hk.size hp.kept.size, fun b hb hS => ?_⟩
      refine (hp.kept.block b (Nat.lt_of_lt_of_le hb hk.size) (fun e => ?_)).trans (hk.block b hb (fun e => hS (.inl e)))
      rcases e with e | ⟨k, h2, h3, e⟩
      · omega
      · exact hS (.inr ⟨k, by omega, h3, e⟩)
    exact k2.trans (hc.kept.mono fun b _ e => Or.inr ⟨i, Nat.le_refl _, by omega, e⟩)

end Fr
end Go.Proofs.YtpcoeakcnmeblaaFmt
