/-
  The walk of FnCloneFieldSpec.
-/
import Derived.Test.YtegabjiaekfmbaaFmtFsA
import Derived.Test.YtegabjiaekfmbaaFmtFfA
namespace Go.Proofs.YtegabjiaekfmbaaFmt.fnCloneFieldSpec
open Go Go.RowKit

theorem keepTy {W : World} {b pb po : Nat} {C C' : Array Value} {T T' : TypeId} {fr fr' : Nat × Nat} (h : W.heap[b]? = some (.cells C T fr)) (hp : W.heap[pb]? = some (.cells C' T' fr')) (hne : T ≠ T') (v : Value) : (W.setCell ⟨pb, po, none⟩ v).heap[b]? = some (.cells C T fr) :=
  (Below.heap_setCell W ⟨pb, po, none⟩ v b (by show b ≠ pb; rintro rfl; rw [h] at hp; cases hp; exact hne rfl)).trans h
def locCells (ln : Int) : List Value := [.pointer none, .string ⟨#[102, 46, 106, 115, 111, 110, 110, 101, 116]⟩, .int .i64 ln, .int .i64 1, .int .i64 ln, .int .i64 2]
def IdAt (w W : World) (ip : Option Addr) (id : ByteArray) : Prop := ip = none ∨ ∃ q, ip = some ⟨q, 0, none⟩ ∧ w.heap.size ≤ q ∧ W.heap[q]? = some (.cells #[.string id] 51 (0, 0))
/-- The location, the field and its name. -/
structure FsB (w W : World) (lo fb : Nat) (ip : Option Addr) (id : ByteArray) (r : List Value) (ln : Int) (m v1 v2 v3 : Value) : Prop where
  loc : W.heap[lo]? = some (.cells ⟨locCells ln⟩ 43 (0, 0))
  fld : W.heap[fb]? = some (.cells (fldCells m (.pointer ip) v1 v2 v3 r) 71 (0, 0))
  idc : IdAt w W ip id
  below : Below w.heap.size w W
  ge : w.heap.size ≤ fb
theorem FsB.belowN {w W W' : World} {lo fb : Nat} {ip : Option Addr} {id : ByteArray} {r : List Value} {ln : Int} {m v1 v2 v3 : Value} (h : FsB w W lo fb ip id r ln m v1 v2 v3) (hb : Below W.heap.size W W') : FsB w W' lo fb ip id r ln m v1 v2 v3 := by
  refine ⟨(hb.block _ (Array.getElem?_eq_some_iff.1 h.loc).1).trans h.loc, (hb.block _ (Array.getElem?_eq_some_iff.1 h.fld).1).trans h.fld, ?_, h.below.trans (hb.mono h.below.size), h.ge⟩
  rcases h.idc with e | ⟨q, e1, e2, e3⟩
  · exact .inl e
  · exact .inr ⟨q, e1, e2, (hb.block _ (Array.getElem?_eq_some_iff.1 e3).1).trans e3⟩
theorem FsB.setT {w W : World} {lo fb : Nat} {ip : Option Addr} {id : ByteArray} {r : List Value} {ln : Int} {m v1 v2 v3 : Value} (h : FsB w W lo fb ip id r ln m v1 v2 v3) {pb po : Nat} {C : Array Value} {t : TypeId} {fr : Nat × Nat} (hp : W.heap[pb]? = some (.cells C t fr)) (hge : w.heap.size ≤ pb) (ht : 43 ≠ t ∧ 71 ≠ t ∧ 51 ≠ t) (v : Value) : FsB w (W.setCell ⟨pb, po, none⟩ v) lo fb ip id r ln m v1 v2 v3 := by
  refine ⟨keepTy h.loc hp ht.1 v, keepTy h.fld hp ht.2.1 v, ?_, h.below.setCell (by show w.heap.size ≤ pb; exact hge) _, h.ge⟩
  rcases h.idc with e | ⟨q, e1, e2, e3⟩
  · exact .inl e
  · exact .inr ⟨q, e1, e2, keepTy e3 hp ht.2.2 v⟩
theorem FsB.setF {w W : World} {lo fb : Nat} {ip ip' : Option Addr} {id : ByteArray} {r : List Value} {ln : Int} {m v1 v2 v3 m' v1' v2' v3' : Value} (h : FsB w W lo fb ip id r ln m v1 v2 v3) (hi : IdAt w W ip' id) (o : Nat) (v : Value) (hs : (fldCells m (.pointer ip) v1 v2 v3 r).setIfInBounds o v = fldCells m' (.pointer ip') v1' v2' v3' r) : FsB w (W.setCell ⟨fb, o, none⟩ v) lo fb ip' id r ln m' v1' v2' v3' := by
  refine ⟨keepTy h.loc h.fld (by decide) v, (Lib.heap_setCell_same h.fld _).trans (by rw [hs]), ?_, h.below.setCell (by show w.heap.size ≤ fb; exact h.ge) _, h.ge⟩
  rcases hi with e | ⟨q, e1, e2, e3⟩
  · exact .inl e
  · exact .inr ⟨q, e1, e2, keepTy e3 h.fld (by decide) v⟩
theorem FsB.named {w W : World} {lo fb : Nat} {id : ByteArray} {r : List Value} {ln : Int} {m v1 v2 v3 : Value} (h : FsB w W lo fb none id r ln m v1 v2 v3) : FsB w ((W.setCell ⟨fb, 1, none⟩ (.pointer (some ⟨W.heap.size, 0, none⟩))).alloc (.cells #[.string id] 51 (0, 0))) lo fb (some ⟨W.heap.size, 0, none⟩) id r ln m v1 v2 v3 := by
  have s1 : (W.setCell ⟨fb, 1, none⟩ (.pointer (some ⟨W.heap.size, 0, none⟩))).heap.size = W.heap.size := by simp [World.setCell]
  have l1 := (Array.getElem?_eq_some_iff.1 h.loc).1
  have l2 := (Array.getElem?_eq_some_iff.1 h.fld).1
  have l3 := h.below.size
  refine ⟨(get_old (by omega)).trans (keepTy h.loc h.fld (by decide) _), (get_old (by omega)).trans ((Lib.heap_setCell_same h.fld _).trans (by simp [fldCells])), .inr ⟨_, rfl, l3, get_new s1.symm⟩, (h.below.setCell (by show w.heap.size ≤ fb; exact h.ge) _).alloc (by omega) _, h.ge⟩
/-- .. and the literal and the two variables. -/
structure FsV (w W : World) (b1 b2 b3 : Nat) (e1 e2 e3 : ByteArray) (lo fb : Nat) (ip : Option Addr) (id : ByteArray) (r : List Value) (ln : Int) (m v1 v2 v3 : Value) : Prop where
  base : FsB w W lo fb ip id r ln m v1 v2 v3
  lit : W.heap[b1]? = some (.cells (litCells e1 ⟨#[]⟩ ⟨#[]⟩ 1 n0) 75 (0, 0))
  var2 : W.heap[b2]? = some (.cells (varCells e2 n0) 60 (0, 0))
  var3 : W.heap[b3]? = some (.cells (varCells e3 n0) 60 (0, 0))
theorem FsV.belowN {w W W' : World} {b1 b2 b3 : Nat} {e1 e2 e3 : ByteArray} {lo fb : Nat} {ip : Option Addr} {id : ByteArray} {r : List Value} {ln : Int} {m v1 v2 v3 : Value} (h : FsV w W b1 b2 b3 e1 e2 e3 lo fb ip id r ln m v1 v2 v3) (hb : Below W.heap.size W W') : FsV w W' b1 b2 b3 e1 e2 e3 lo fb ip id r ln m v1 v2 v3 :=
  ⟨h.base.belowN hb, (hb.block _ (Array.getElem?_eq_some_iff.1 h.lit).1).trans h.lit, (hb.block _ (Array.getElem?_eq_some_iff.1 h.var2).1).trans h.var2, (hb.block _ (Array.getElem?_eq_some_iff.1 h.var3).1).trans h.var3⟩
theorem FsV.setT {w W : World} {b1 b2 b3 : Nat} {e1 e2 e3 : ByteArray} {lo fb : Nat} {ip : Option Addr} {id : ByteArray} {r : List Value} {ln : Int} {m v1 v2 v3 : Value} (h : FsV w W b1 b2 b3 e1 e2 e3 lo fb ip id r ln m v1 v2 v3) {pb po : Nat} {C : Array Value} {t : TypeId} {fr : Nat × Nat} (hp : W.heap[pb]? = some (.cells C t fr)) (hge : w.heap.size ≤ pb) (ht : 43 ≠ t ∧ 71 ≠ t ∧ 51 ≠ t) (ht2 : 75 ≠ t ∧ 60 ≠ t) (v : Value) : FsV w (W.setCell ⟨pb, po, none⟩ v) b1 b2 b3 e1 e2 e3 lo fb ip id r ln m v1 v2 v3 :=
  ⟨h.base.setT hp hge ht v, keepTy h.lit hp ht2.1 v, keepTy h.var2 hp ht2.2 v, keepTy h.var3 hp ht2.2 v⟩
theorem FsV.setF {w W : World} {b1 b2 b3 : Nat} {e1 e2 e3 : ByteArray} {lo fb : Nat} {ip : Option Addr} {id : ByteArray} {r : List Value} {ln : Int} {m v1 v2 v3 m' v1' v2' v3' : Value} (h : FsV w W b1 b2 b3 e1 e2 e3 lo fb ip id r ln m v1 v2 v3) (o : Nat) (v : Value) (hs : (fldCells m (.pointer ip) v1 v2 v3 r).setIfInBounds o v = fldCells m' (.pointer ip) v1' v2' v3' r) : FsV w (W.setCell ⟨fb, o, none⟩ v) b1 b2 b3 e1 e2 e3 lo fb ip id r ln m' v1' v2' v3' :=
  ⟨h.base.setF h.base.idc o v hs, keepTy h.lit h.base.fld (by decide) v, keepTy h.var2 h.base.fld (by decide) v, keepTy h.var3 h.base.fld (by decide) v⟩
theorem FsV.drew {w W : World} {b1 b2 b3 : Nat} {e1 e2 e3 : ByteArray} {lo fb : Nat} {ip : Option Addr} {id : ByteArray} {r : List Value} {ln : Int} {m v1 v2 v3 : Value} (h : FsV w W b1 b2 b3 e1 e2 e3 lo fb ip id r ln m v1 v2 v3) : FsV w W.drew b1 b2 b3 e1 e2 e3 lo fb ip id r ln m v1 v2 v3 :=
  ⟨⟨h.base.loc, h.base.fld, h.base.idc, drew_below h.base.below, h.base.ge⟩, h.lit, h.var2, h.var3⟩


/-- .. and the Function. -/
structure FsF (w W : World) (b1 b2 b3 : Nat) (e1 e2 e3 : ByteArray) (lo fb : Nat) (ip : Option Addr) (id : ByteArray) (r : List Value) (ln : Int) (m v1 v2 v3 : Value) (nb : Nat) (x : Value) (ps : Option (Nat × (Nat → ByteArray))) : Prop where
  base : FsV w W b1 b2 b3 e1 e2 e3 lo fb ip id r ln m v1 v2 v3
  fn : ∃ pa pn pc, W.heap[nb]? = some (.cells (fnCells x pa pn pc n0) 80 (0, 0)) ∧ ParsAt W pa pn pc ps
  ge : w.heap.size ≤ nb
theorem FsF.drewN {w W : World} {b1 b2 b3 : Nat} {e1 e2 e3 : ByteArray} {lo fb : Nat} {ip : Option Addr} {id : ByteArray} {r : List Value} {ln : Int} {m v1 v2 v3 : Value} {nb : Nat} {x : Value} {ps : Option (Nat × (Nat → ByteArray))} (h : FsF w W b1 b2 b3 e1 e2 e3 lo fb ip id r ln m v1 v2 v3 nb x ps) (k : Nat) : FsF w (W.drewN k) b1 b2 b3 e1 e2 e3 lo fb ip id r ln m v1 v2 v3 nb x ps := by
  obtain ⟨⟨⟨a1, a2, a3, a4, a5⟩, a6, a7, a8⟩, ⟨pa, pn, pc, a9, a10⟩, a11⟩ := h
  refine ⟨⟨⟨a1, a2, a3, drewN_below a4 k, a5⟩, a6, a7, a8⟩, ⟨pa, pn, pc, a9, ?_⟩, a11⟩
  cases ps with
  | none => exact a10
  | some q =>
    obtain ⟨L, c1, c2, c3, c4⟩ := a10
    exact ⟨L, c1, c2, c3.keep rfl, c4⟩
theorem parsAt_set {W : World} {pa : Option Addr} {pn pc pb po : Nat} {ps : Option (Nat × (Nat → ByteArray))} {C : Array Value} {T : TypeId} {fr : Nat × Nat} (h : ParsAt W pa pn pc ps) (hp : W.heap[pb]? = some (.cells C T fr)) (hT : T ≠ 82) (v : Value) : ParsAt (W.setCell ⟨pb, po, none⟩ v) pa pn pc ps := by
  cases ps with
  | none => exact h
  | some q =>
    obtain ⟨L, h1, h2, h3, h4⟩ := h
    refine ⟨L, h1, h2, h3.keep (Below.heap_setCell W _ _ L (fun e => ?_)), h4⟩
    obtain ⟨C', hc, _⟩ := h3
    have e : L = pb := e
    rw [e, hp] at hc
    cases hc
    exact hT rfl
theorem FsF.body {w W : World} {b1 b2 b3 : Nat} {e1 e2 e3 : ByteArray} {lo fb : Nat} {ip : Option Addr} {id : ByteArray} {r : List Value} {ln : Int} {m v1 v2 v3 : Value} {nb : Nat} {x : Value} {ps : Option (Nat × (Nat → ByteArray))} (h : FsF w W b1 b2 b3 e1 e2 e3 lo fb ip id r ln m v1 v2 v3 nb x ps) (u : Value) : FsF w (W.setCell ⟨nb, 2, none⟩ u) b1 b2 b3 e1 e2 e3 lo fb ip id r ln m v1 v2 v3 nb u ps := by
  obtain ⟨h1, ⟨pa, pn, pc, a9, a10⟩, a11⟩ := h
  exact ⟨h1.setT a9 a11 (by decide) (by decide) u, ⟨pa, pn, pc, (Lib.heap_setCell_same a9 _).trans (by simp [fnCells]), parsAt_set a10 a9 (by decide) u⟩, a11⟩
theorem FsF.meth {w W : World} {b1 b2 b3 : Nat} {e1 e2 e3 : ByteArray} {lo fb : Nat} {ip : Option Addr} {id : ByteArray} {r : List Value} {ln : Int} {m v1 v2 v3 : Value} {nb : Nat} {x : Value} {ps : Option (Nat × (Nat → ByteArray))} (h : FsF w W b1 b2 b3 e1 e2 e3 lo fb ip id r ln m v1 v2 v3 nb x ps) (u : Value) : FsF w (W.setCell ⟨fb, 0, none⟩ u) b1 b2 b3 e1 e2 e3 lo fb ip id r ln u v1 v2 v3 nb x ps := by
  obtain ⟨h1, ⟨pa, pn, pc, a9, a10⟩, a11⟩ := h
  exact ⟨h1.setF 0 u rfl, ⟨pa, pn, pc, keepTy a9 h1.base.fld (by decide) u, parsAt_set a10 h1.base.fld (by decide) u⟩, a11⟩
/-- .. while its parameters are laid. -/
structure FsL (w W : World) (b1 b2 b3 : Nat) (e1 e2 e3 : ByteArray) (lo fb : Nat) (ip : Option Addr) (id : ByteArray) (r : List Value) (ln : Int) (v1 v2 v3 : Value) (nb g n : Nat) (ns : Nat → ByteArray) : Prop where
  base : FsV w W b1 b2 b3 e1 e2 e3 lo fb ip id r ln (.pointer none) v1 v2 v3
  fn : W.heap[nb]? = some (.cells (fnCells .nilIface (some ⟨g, 0, none⟩) n n n0) 80 (0, 0))
  par : ParRow W g n ns
  ge : w.heap.size ≤ nb
  ge2 : w.heap.size ≤ g
theorem FsL.name {w W : World} {b1 b2 b3 : Nat} {e1 e2 e3 : ByteArray} {lo fb : Nat} {ip : Option Addr} {id : ByteArray} {r : List Value} {ln : Int} {v1 v2 v3 : Value} {nb g n : Nat} {ns : Nat → ByteArray} (h : FsL w W b1 b2 b3 e1 e2 e3 lo fb ip id r ln v1 v2 v3 nb g n ns) {q : Nat} (hq : q < n) (t : ByteArray) : FsL w (W.setCell ⟨g, q * 11 + 1, none⟩ (.string t)) b1 b2 b3 e1 e2 e3 lo fb ip id r ln v1 v2 v3 nb g n (fun i => if i = q then t else ns i) := by
  obtain ⟨h1, h2, h3, h4, h5⟩ := h
  have h3' := h3.set hq t
  obtain ⟨C, hc, _⟩ := h3
  exact ⟨h1.setT hc h5 (by decide) (by decide) _, keepTy h2 hc (by decide) _, h3', h4, h5⟩
theorem FsL.drew {w W : World} {b1 b2 b3 : Nat} {e1 e2 e3 : ByteArray} {lo fb : Nat} {ip : Option Addr} {id : ByteArray} {r : List Value} {ln : Int} {v1 v2 v3 : Value} {nb g n : Nat} {ns : Nat → ByteArray} (h : FsL w W b1 b2 b3 e1 e2 e3 lo fb ip id r ln v1 v2 v3 nb g n ns) : FsL w W.drew b1 b2 b3 e1 e2 e3 lo fb ip id r ln v1 v2 v3 nb g n ns := ⟨h.base.drew, h.fn, h.par.keep rfl, h.ge, h.ge2⟩
theorem FsL.congr {w W : World} {b1 b2 b3 : Nat} {e1 e2 e3 : ByteArray} {lo fb : Nat} {ip : Option Addr} {id : ByteArray} {r : List Value} {ln : Int} {v1 v2 v3 : Value} {nb g n : Nat} {ns ms : Nat → ByteArray} (h : FsL w W b1 b2 b3 e1 e2 e3 lo fb ip id r ln v1 v2 v3 nb g n ns) (e : ∀ i, i < n → ns i = ms i) : FsL w W b1 b2 b3 e1 e2 e3 lo fb ip id r ln v1 v2 v3 nb g n ms := ⟨h.base, h.fn, h.par.congr e, h.ge, h.ge2⟩
/-- After cloneField: what the field holds now, and the old nodes. -/
structure FsR (w W : World) (M : Nat) (b1 b2 b3 : Nat) (e1 e2 e3 : ByteArray) (lo fb : Nat) (ip : Option Addr) (id : ByteArray) (r : List Value) (ln : Int) (m v1 v2 v3 : Value) (nb : Nat) (x : Value) (ps : Option (Nat × (Nat → ByteArray))) (mo : Option (Leaf × Option (Nat × (Nat → ByteArray)))) (x1 x2 x3 : Leaf) : Prop where
  old : FsF w W b1 b2 b3 e1 e2 e3 lo fb ip id r ln m v1 v2 v3 nb x ps
  met : MetNew M W m n0 mo
  l1 : LeafNew M W v1 x1
  l2 : LeafNew M W v2 x2
  l3 : LeafNew M W v3 x3
  lt : b1 < M ∧ b2 < M ∧ b3 < M ∧ nb < M
  plt : ∀ pa pn pc, W.heap[nb]? = some (.cells (fnCells x pa pn pc n0) 80 (0, 0)) → ∀ g, pa = some ⟨g, 0, none⟩ → g < M
theorem FsR.drewN {w W : World} {M b1 b2 b3 : Nat} {e1 e2 e3 : ByteArray} {lo fb : Nat} {ip : Option Addr} {id : ByteArray} {r : List Value} {ln : Int} {m v1 v2 v3 : Value} {nb : Nat} {x : Value} {ps : Option (Nat × (Nat → ByteArray))} {mo : Option (Leaf × Option (Nat × (Nat → ByteArray)))} {x1 x2 x3 : Leaf} (h : FsR w W M b1 b2 b3 e1 e2 e3 lo fb ip id r ln m v1 v2 v3 nb x ps mo x1 x2 x3) (k : Nat) : FsR w (W.drewN k) M b1 b2 b3 e1 e2 e3 lo fb ip id r ln m v1 v2 v3 nb x ps mo x1 x2 x3 :=
  ⟨h.old.drewN k, h.met.keep (fun _ _ _ => rfl), h.l1.keep (fun _ _ _ => rfl), h.l2.keep (fun _ _ _ => rfl), h.l3.keep (fun _ _ _ => rfl), h.lt, h.plt⟩
theorem fsAfter {w wc W : World} {b1 b2 b3 : Nat} {e1 e2 e3 : ByteArray} {lo fb : Nat} {ip : Option Addr} {id : ByteArray} {r : List Value} {ln : Int} {m v1 v2 v3 : Value} {nb : Nat} {x : Value} {ps : Option (Nat × (Nat → ByteArray))} {mo : Option (Leaf × Option (Nat × (Nat → ByteArray)))} {x1 x2 x3 : Leaf} {e : Ending} (h : FsF w wc b1 b2 b3 e1 e2 e3 lo fb ip id r ln m v1 v2 v3 nb x ps) (hp : FldPost fb (.pointer ip) r n0 mo x1 x2 x3 wc e W) : ∃ m' v1' v2' v3', FsR w W wc.heap.size b1 b2 b3 e1 e2 e3 lo fb ip id r ln m' v1' v2' v3' nb x ps mo x1 x2 x3 := by
  obtain ⟨_, m', u1, u2, u3, r7, mn, n1, n2, n3, hk⟩ := hp
  obtain ⟨⟨⟨a1, a2, a3, a4, a5⟩, a6, a7, a8⟩, ⟨pa, pn, pc, a9, a10⟩, a11⟩ := h
  have K : ∀ {b : Nat} {C : Array Value} {T : TypeId} {fr : Nat × Nat}, wc.heap[b]? = some (.cells C T fr) → T ≠ 71 → W.heap[b]? = some (.cells C T fr) := fun {b C T fr} hb hT => (hk.block b (Array.getElem?_eq_some_iff.1 hb).1 (fun e => by
    have e : b = fb := e
    rw [e, a2] at hb
    cases hb
    exact hT rfl)).trans hb
  refine ⟨m', u1, u2, u3, ⟨⟨⟨K a1 (by decide), r7, ?_, a4.trans (hk.below (fun _ e => by subst e; exact a5) a4.size), a5⟩, K a6 (by decide), K a7 (by decide), K a8 (by decide)⟩, ⟨pa, pn, pc, K a9 (by decide), ?_⟩, a11⟩, mn, n1, n2, n3, ⟨(Array.getElem?_eq_some_iff.1 a6).1, (Array.getElem?_eq_some_iff.1 a7).1, (Array.getElem?_eq_some_iff.1 a8).1, (Array.getElem?_eq_some_iff.1 a9).1⟩, fun pa2 pn2 pc2 h2 g hg => ?_⟩
  · rcases a3 with e | ⟨q, c1, c2, c3⟩
    · exact .inl e
    · exact .inr ⟨q, c1, c2, K c3 (by decide)⟩
  · cases ps with
    | none => exact a10
    | some q =>
      obtain ⟨L, c1, c2, ⟨C, c3, c3'⟩, c4⟩ := a10
      exact ⟨L, c1, c2, ⟨C, K c3 (by decide), c3'⟩, c4⟩
  · have e := (K a9 (by decide)).symm.trans h2
    have e2 : Value.slice pa pn pc = .slice pa2 pn2 pc2 := by
      have e3 := Option.some.inj e
      injection e3 with e4
      simp only [fnCells] at e4
      injection e4 with e5
      exact Option.some.inj (congrArg (fun l : List Value => l[3]?) e5)
    injection e2 with e6
    rw [hg] at e6
    cases ps with
    | none => rw [a10.1] at e6; cases e6
    | some q =>
      obtain ⟨L, c1, _, ⟨C, c3, _⟩, _⟩ := a10
      rw [c1] at e6
      cases e6
      exact (Array.getElem?_eq_some_iff.1 c3).1
theorem neqPtr {tp te : TypeId} {n : Nat} (hp : Tryf.prog.underlying tp = some (.pointer te)) (hs : (Tryf.prog.info? te).map (fun i => i.size) = some n) (a : Option Addr) (w : World) : (binOp .neq tp (.pointer a) (.pointer a)).run Tryf.prog w = .ok (.bool false) w := by
  cases a with
  | none => exact run_neq_pointer_nil w tp none (by simp [Program.pointee, hp])
  | some a =>
    obtain ⟨t, ht, _⟩ := info_size hs
    exact Lib.run_neq_ptr_same (w := w) a hp ht


theorem leaf1 {w W : World} {b1 b2 b3 : Nat} {e1 e2 e3 : ByteArray} {lo fb : Nat} {ip : Option Addr} {id : ByteArray} {r : List Value} {ln : Int} {m v1 v2 v3 : Value} (h : FsV w W b1 b2 b3 e1 e2 e3 lo fb ip id r ln m v1 v2 v3) (p1 : Bool) : LeafAt W (if p1 then Value.iface 72 (.pointer (some ⟨b1, 0, none⟩)) else .nilIface) (if p1 then Leaf.lit e1 ⟨#[]⟩ ⟨#[]⟩ 1 n0 [] none else .nil) := by
  cases p1 with
  | false => rfl
  | true => exact ⟨b1, rfl, h.lit, n0_ok _⟩
theorem leaf2 {w W : World} {b1 b2 b3 : Nat} {e1 e2 e3 : ByteArray} {lo fb : Nat} {ip : Option Addr} {id : ByteArray} {r : List Value} {ln : Int} {m v1 v2 v3 : Value} (h : FsV w W b1 b2 b3 e1 e2 e3 lo fb ip id r ln m v1 v2 v3) (p2 : Bool) : LeafAt W (if p2 then Value.iface 57 (.pointer (some ⟨b2, 0, none⟩)) else .nilIface) (if p2 then Leaf.var e2 n0 [] none else .nil) := by
  cases p2 with
  | false => rfl
  | true => exact ⟨b2, rfl, h.var2, n0_ok _⟩
theorem leaf3 {w W : World} {b1 b2 b3 : Nat} {e1 e2 e3 : ByteArray} {lo fb : Nat} {ip : Option Addr} {id : ByteArray} {r : List Value} {ln : Int} {m v1 v2 v3 : Value} (h : FsV w W b1 b2 b3 e1 e2 e3 lo fb ip id r ln m v1 v2 v3) (p3 : Bool) : LeafAt W (if p3 then Value.iface 57 (.pointer (some ⟨b3, 0, none⟩)) else .nilIface) (if p3 then Leaf.var e3 n0 [] none else .nil) := by
  cases p3 with
  | false => rfl
  | true => exact ⟨b3, rfl, h.var3, n0_ok _⟩
theorem fsMet {w W : World} {b1 b2 b3 : Nat} {e1 e2 e3 : ByteArray} {lo fb : Nat} {ip : Option Addr} {id : ByteArray} {r : List Value} {ln : Int} {m v1 v2 v3 : Value} {nb : Nat} {p2 : Bool} {ps : Option (Nat × (Nat → ByteArray))} (h : FsF w W b1 b2 b3 e1 e2 e3 lo fb ip id r ln m v1 v2 v3 nb (if p2 then Value.iface 57 (.pointer (some ⟨b2, 0, none⟩)) else .nilIface) ps) (pm : Bool) : MetAt W (if pm then Value.pointer (some ⟨nb, 0, none⟩) else .pointer none) n0 (if pm then some ((if p2 then Leaf.var e2 n0 [] none else .nil), ps) else none) := by
  cases pm with
  | false => rfl
  | true =>
    obtain ⟨h1, ⟨pa, pn, pc, h2, h3⟩, _⟩ := h
    exact ⟨nb, rfl, _, pa, pn, pc, h2, leaf2 h1 p2, h3, n0_ok _⟩
/-- What both lists of parameters say. -/
theorem fsPars {W : World} {M : Nat} {pa pa' : Option Addr} {pn pc pn' pc' : Nat} {n : Nat} {ns : Nat → ByteArray} {pp : Bool} (h : ParsAt W pa pn pc (if pp then some (n, ns) else none)) (h' : ParsNew M W pa' pn' pc' (if pp then some (n, ns) else none)) :
    pn' = pn ∧ pn ≤ 1048576 ∧ (pa'.isNone = !pp) ∧ (0 < pn → pn = n ∧ ∃ g g' C C', pa = some ⟨g, 0, none⟩ ∧ pa' = some ⟨g', 0, none⟩ ∧ M ≤ g' ∧ W.heap[g]? = some (.cells C 82 (0, 0)) ∧ W.heap[g']? = some (.cells C' 82 (0, 0)) ∧ ParRow W g' n ns) := by
  cases pp with
  | false =>
    obtain ⟨rfl, rfl, rfl⟩ := h
    obtain ⟨rfl, rfl, rfl⟩ := h'
    exact ⟨rfl, by omega, rfl, fun h => absurd h (by omega)⟩
  | true =>
    obtain ⟨g, rfl, rfl, hr, hle⟩ := h
    obtain ⟨g', rfl, rfl, hM, hr'⟩ := h'
    have hr2 := hr'
    obtain ⟨C, hC, _⟩ := hr
    obtain ⟨C', hC', _⟩ := hr'
    exact ⟨rfl, hle, rfl, fun _ => ⟨rfl, g, g', C, C', rfl, rfl, hM, hC, hC', hr2⟩⟩

set_option maxHeartbeats 6400000 in
set_option maxRecDepth 100000 in
theorem walk_b (kd hd : Int) (ss : Bool) (id e1 e2 e3 : ByteArray) (pr : Int) (a : Option Addr) (n c : Nat) (zs : List ByteArray) (ln : Int) (w : World) (hi : StrsAt w w.heap.size (.slice a n c) zs) (hl : zs.length = n) (hn : n ≤ maxLen) (h0 : id.size ≤ maxLen) (h1 : e1.size ≤ maxLen) (h2 : e2.size ≤ maxLen) (h3 : e3.size ≤ maxLen) (hz : ∀ i, i < n → (zs.getD i ByteArray.empty).size ≤ maxLen) :
    Calls Tryf.prog 4 #[.int .i64 kd, .int .i64 hd, .bool ss, .string id, .string e1, .string e2, .string e3, .int .u8 pr, .slice a n c, .int .i64 ln] w fun e w' => e = .returned (.bool true) ∧ Below w.heap.size w w' := by
  obtain ⟨i0, hinf, hz0, hz1, hz2⟩ := info_parts infoPar
  have HI := Lib.hid hi
  have HL := Lib.hid hl
  have HZ := Lib.hid hz
  have HN := Lib.hid (show e1.size ≤ maxLen ∧ e2.size ≤ maxLen ∧ e3.size ≤ maxLen ∧ n ≤ maxLen ∧ id.size ≤ maxLen from ⟨h1, h2, h3, hn, h0⟩)
  clear hi hl hz hn h1 h2 h3 h0
  go_enter Tryf.func4, Tryf.ntmps4
  go_wp2_with fail
  refine (bytesAt kd hd ss id e1 e2 e3 pr a n c zs ln w HI.out HL.out HN.out.2.2.2.1 HN.out.2.2.2.2 HN.out.1 HN.out.2.1 HN.out.2.2.1 HZ.out).mono ?_
  rintro e w' ⟨⟨b, rfl, hfit⟩, rfl⟩
  cases b with
  | false =>
    go_wp2
    go_ret
    exact ⟨rfl, Below.refl _ _⟩
  | true =>
  obtain ⟨hS, hZZ⟩ := hfit rfl
  have HZZ := Lib.hid hZZ
  clear hZZ hfit HZ HN
  by_cases hn2 : 65536 < n
  · go_wp2
    go_ret
    exact ⟨rfl, Below.refl _ _⟩
  have u0 : ¬ 1048576 < id.size := by omega
  have u1 : ¬ 1048576 < e1.size := by omega
  have u2 : ¬ 1048576 < e2.size := by omega
  have u3 : ¬ 1048576 < e3.size := by omega
  go_wp2_with fail
  refine (strBytes a n c zs w HI.out HL.out (by omega) HZZ.out).mono ?_
  rintro e w' ⟨⟨S, rfl, hS2, _⟩, rfl⟩
  by_cases hS3 : 1048576 < id.size + e1.size + e2.size + e3.size + S
  · go_wp2
    go_ret
    exact ⟨rfl, Below.refl _ _⟩
  go_upto_if 103 with (fail)
  generalize hW0 : (w.alloc (.cells #[.pointer none, .string ⟨#[102, 46, 106, 115, 111, 110, 110, 101, 116]⟩, .int .i64 ln, .int .i64 1, .int .i64 ln, .int .i64 2] 43 (0, 0))).alloc
    (.cells #[.pointer none, .pointer none, .slice none 0 0, .slice none 0 0, .slice none 0 0, .slice none 0 0, .nilIface, .nilIface, .nilIface, .pointer none, .string ⟨#[102, 46, 106, 115, 111, 110, 110, 101, 116]⟩, .int .i64 ln, .int .i64 1, .int .i64 ln, .int .i64 2, .int .i64 kd, .int .i64 hd, .bool ss] 71 (0, 0)) = W0
  obtain ⟨r, hr⟩ : ∃ r, r = locCells ln ++ [.int .i64 kd, .int .i64 hd, .bool ss] := ⟨_, rfl⟩
  have D0 : FsB w W0 w.heap.size (w.heap.size + 1) none id r ln (.pointer none) .nilIface .nilIface .nilIface := by
    subst hW0
    refine ⟨?_, ?_, .inl rfl, (((Below.refl _ w).alloc (Nat.le_refl _) _).alloc (by simp) _), by omega⟩
    · exact (get_old (by simp)).trans (get_new (by first | (simp; done) | rfl))
    · rw [hr]
      exact get_new (by simp)
  clear hW0
  generalize hfb : w.heap.size + 1 = fb at D0 ⊢
  have HD0 := Lib.hid D0
  clear D0
  go_cut [23] from 95 to 103 (fun s23 wc => Hid (∃ ip, s23 = .pointer ip ∧ FsB w wc w.heap.size fb ip id r ln (.pointer none) .nilIface .nilIface .nilIface))
  case first =>
    by_cases hp : (bits .and .u8 pr 1) = 0
    · go_wp2_with fail
      go_meet
      exact Lib.hid ⟨_, rfl, HD0.out⟩
    · have k1 : W0.cell? ⟨fb, 1, none⟩ = some (.pointer none) := (cell_of_row _ _ 1 _ _ _ HD0.out.fld).trans rfl
      have z1 : W0.frozen? ⟨fb, 1, none⟩ = false := frozen_of HD0.out.fld 1
      have hlt : fb < W0.heap.size := (Array.getElem?_eq_some_iff.1 HD0.out.fld).1
      have hsz := HD0.out.below.size
      go_wp2_with fail
      go_meet
      exact Lib.hid ⟨_, rfl, HD0.out.named⟩
  case rest =>
  obtain ⟨ip, rfl, hb⟩ := hcut.out
  have HB := Lib.hid hb
  clear hb hcut HD0
  clear W0
  go_upto_if 136 with (fail)
  generalize hW1 : ((wc.alloc (.cells #[.string e1, .string ⟨#[]⟩, .string ⟨#[]⟩, .slice none 0 0, .pointer none, .slice none 0 0, .pointer none, .string ⟨#[]⟩, .int .i64 0, .int .i64 0, .int .i64 0, .int .i64 0, .int .i64 1] 75 (0, 0))).alloc
    (.cells #[.string e2, .slice none 0 0, .pointer none, .slice none 0 0, .pointer none, .string ⟨#[]⟩, .int .i64 0, .int .i64 0, .int .i64 0, .int .i64 0] 60 (0, 0))).alloc
    (.cells #[.string e3, .slice none 0 0, .pointer none, .slice none 0 0, .pointer none, .string ⟨#[]⟩, .int .i64 0, .int .i64 0, .int .i64 0, .int .i64 0] 60 (0, 0)) = W1
  have hsz := HB.out.below.size
  have D1 : FsV w W1 wc.heap.size (wc.heap.size + 1) (wc.heap.size + 1 + 1) e1 e2 e3 w.heap.size fb ip id r ln (.pointer none) .nilIface .nilIface .nilIface := by
    subst hW1
    refine ⟨HB.out.belowN ((((Below.refl _ wc).alloc (Nat.le_refl _) _).alloc (by simp) _).alloc (by simp; omega) _), ?_, ?_, ?_⟩
    · exact (get_old (by first | (simp; done) | (simp; omega))).trans ((get_old (by first | (simp; done) | (simp; omega))).trans (get_new (by first | (simp; done) | (simp; omega))))
    · exact (get_old (by first | (simp; done) | (simp; omega))).trans (get_new (by first | (simp; done) | (simp; omega)))
    · exact get_new (by first | (simp; done) | (simp; omega))
  have hl1 : w.heap.size ≤ wc.heap.size := hsz
  clear hW1 hsz HB
  generalize hb3 : wc.heap.size + 1 + 1 = b3 at D1 ⊢
  generalize hb2 : wc.heap.size + 1 = b2 at hb3 D1 ⊢
  generalize hb1 : wc.heap.size = b1 at hb2 hl1 D1 ⊢
  have l1 : w.heap.size ≤ b1 := hl1
  have l2 : w.heap.size ≤ b2 := by omega
  have l3 : w.heap.size ≤ b3 := by omega
  have n23 : b2 ≠ b3 := by omega
  clear hb1 hb2 hb3 hl1
  obtain ⟨p1, hp1⟩ : ∃ p1, (bits .and .u8 pr 2 != 0) = p1 := ⟨_, rfl⟩
  obtain ⟨p2, hp2⟩ : ∃ p2, (bits .and .u8 pr 4 != 0) = p2 := ⟨_, rfl⟩
  obtain ⟨p3, hp3⟩ : ∃ p3, (bits .and .u8 pr 8 != 0) = p3 := ⟨_, rfl⟩
  obtain ⟨pm, hpm⟩ : ∃ pm, (bits .and .u8 pr 16 != 0) = pm := ⟨_, rfl⟩
  obtain ⟨pp, hpp⟩ : ∃ pp, (bits .and .u8 pr 32 != 0) = pp := ⟨_, rfl⟩
  rw [hp1, hp2, hp3, hpm, hpp]
  have HD1 := Lib.hid D1
  clear hp1 hp2 hp3 hpm hpp D1
  clear wc
  go_cut [27] from 121 to 136 (fun s27 wd => Hid (s27 = .bool p1 ∧ FsV w wd b1 b2 b3 e1 e2 e3 w.heap.size fb ip id r ln (.pointer none) (if p1 then Value.iface 72 (.pointer (some ⟨b1, 0, none⟩)) else .nilIface) .nilIface .nilIface))
  case first =>
    cases p1 with
    | false =>
      go_wp2_with fail
      go_meet
      exact Lib.hid ⟨rfl, HD1.out⟩
    | true =>
      go_wp2_with fail
      refine (setE1 fb b1 .nilIface _ ((cell_of_row _ _ 6 _ _ _ HD1.out.base.fld).trans rfl) (frozen_of HD1.out.base.fld 6)).mono ?_
      rintro e w2 ⟨rfl, rfl⟩
      go_wp2_with fail
      go_meet
      exact Lib.hid ⟨rfl, HD1.out.setF 6 _ rfl⟩
  case rest =>
  obtain ⟨rfl, hd⟩ := hcut.out
  have HD2 := Lib.hid hd
  clear hd hcut HD1
  clear W1
  go_upto_if 140 with (fail)
  go_cut [28] from 121 to 140 (fun s28 wd => Hid (s28 = .bool p2 ∧ FsV w wd b1 b2 b3 e1 e2 e3 w.heap.size fb ip id r ln (.pointer none) (if p1 then Value.iface 72 (.pointer (some ⟨b1, 0, none⟩)) else .nilIface) (if p2 then Value.iface 57 (.pointer (some ⟨b2, 0, none⟩)) else .nilIface) .nilIface))
  case first =>
    cases p2 with
    | false =>
      go_wp2_with fail
      go_meet
      exact Lib.hid ⟨rfl, HD2.out⟩
    | true =>
      go_wp2_with fail
      refine (setE2 fb b2 .nilIface _ ((cell_of_row _ _ 7 _ _ _ HD2.out.base.fld).trans rfl) (frozen_of HD2.out.base.fld 7)).mono ?_
      rintro e w2 ⟨rfl, rfl⟩
      go_wp2_with fail
      go_meet
      exact Lib.hid ⟨rfl, HD2.out.setF 7 _ rfl⟩
  case rest =>
  obtain ⟨rfl, hd⟩ := hcut.out
  have HD3 := Lib.hid hd
  clear hd hcut HD2
  rename_i wc1
  go_upto_if 144 with (fail)
  go_cut [29] from 121 to 144 (fun s29 wd => Hid (s29 = .bool p3 ∧ FsV w wd b1 b2 b3 e1 e2 e3 w.heap.size fb ip id r ln (.pointer none) (if p1 then Value.iface 72 (.pointer (some ⟨b1, 0, none⟩)) else .nilIface) (if p2 then Value.iface 57 (.pointer (some ⟨b2, 0, none⟩)) else .nilIface) (if p3 then Value.iface 57 (.pointer (some ⟨b3, 0, none⟩)) else .nilIface)))
  case first =>
    cases p3 with
    | false =>
      go_wp2_with fail
      go_meet
      exact Lib.hid ⟨rfl, HD3.out⟩
    | true =>
      go_wp2_with fail
      refine (setE3 fb b3 .nilIface _ ((cell_of_row _ _ 8 _ _ _ HD3.out.base.fld).trans rfl) (frozen_of HD3.out.base.fld 8)).mono ?_
      rintro e w2 ⟨rfl, rfl⟩
      go_wp2_with fail
      go_meet
      exact Lib.hid ⟨rfl, HD3.out.setF 8 _ rfl⟩
  case rest =>
  obtain ⟨rfl, hd⟩ := hcut.out
  have HD4 := Lib.hid hd
  clear hd hcut HD3
  go_upto_if 150 with (fail)
  change Code.wp Tryf.prog _ _ _ (wc.alloc (.cells (fnCells .nilIface none 0 0 n0) 80 (0, 0)))
  have hnb := HD4.out.base.below.size
  have D5 : FsF w (wc.alloc (.cells (fnCells .nilIface none 0 0 n0) 80 (0, 0))) b1 b2 b3 e1 e2 e3 w.heap.size fb ip id r ln (.pointer none) (if p1 then Value.iface 72 (.pointer (some ⟨b1, 0, none⟩)) else .nilIface) (if p2 then Value.iface 57 (.pointer (some ⟨b2, 0, none⟩)) else .nilIface) (if p3 then Value.iface 57 (.pointer (some ⟨b3, 0, none⟩)) else .nilIface) wc.heap.size .nilIface none :=
    ⟨HD4.out.belowN ((Below.refl _ wc).alloc (Nat.le_refl _) _), ⟨none, 0, 0, heap_alloc_new _ _, rfl, rfl, rfl⟩, hnb⟩
  generalize (wc.alloc (.cells (fnCells .nilIface none 0 0 n0) 80 (0, 0))) = W5 at D5 ⊢
  generalize wc.heap.size = nb at D5 hnb ⊢
  have HD5 := Lib.hid D5
  clear D5 HD4
  clear wc
  go_cut [31] from 130 to 150 (fun s31 wd => Hid (s31 = .bool pp ∧ FsF w wd b1 b2 b3 e1 e2 e3 w.heap.size fb ip id r ln (.pointer none) (if p1 then Value.iface 72 (.pointer (some ⟨b1, 0, none⟩)) else .nilIface) (if p2 then Value.iface 57 (.pointer (some ⟨b2, 0, none⟩)) else .nilIface) (if p3 then Value.iface 57 (.pointer (some ⟨b3, 0, none⟩)) else .nilIface) nb .nilIface (if pp then some (n, (fun i => zs.getD i ByteArray.empty)) else none)))
  case first =>
    as_aux_lemma =>
      cases pp with
      | false =>
        go_wp2_with fail
        go_meet
        exact Lib.hid ⟨rfl, HD5.out⟩
      | true =>
        obtain ⟨d1, ⟨_, _, _, d2, rfl, rfl, rfl⟩, d3⟩ := HD5.out
        have hlf : nb < W5.heap.size := (Array.getElem?_eq_some_iff.1 d2).1
        have HDV := Lib.hid d1
        have HFN := Lib.hid d2
        clear d1 d2
        go_wp2_with (refine wpList_make_full _ rfl _ _ 78 rfl W5.heap.size 82 i0 (.agg #[.slice none 0 0, .string ⟨#[]⟩, .slice none 0 0, .slice none 0 0, .nilIface, .pointer none, .string ⟨#[]⟩, .int .i64 0, .int .i64 0, .int .i64 0, .int .i64 0]) 11 Tryf.underlying78 hinf hz0 hz1 .i64 .i64 _ _ n rfl rfl rfl rfl (by rw [hz2]; omega) (by unfold maxLen; omega) (Nat.le_refl _) ?_; intro w4 hown4 hg4; have hb4 : Below W5.heap.size W5 w4 := (Below.refl _ _).grown hg4 (Nat.le_refl _) (by simp); have HF4 := Lib.hid ((hb4.block nb hlf).trans HFN.out); have c3 : w4.cell? ⟨nb, 3, none⟩ = some (.slice none 0 0) := (cell_of_row _ _ 3 _ _ _ HF4.out).trans rfl; have z3 : w4.frozen? ⟨nb, 3, none⟩ = false := frozen_of HF4.out 3)
        have hp4 := parMade hown4
        have hge5 := HDV.out.base.below.size
        have HLP : FsL w (w4.setCell ⟨nb, 3, none⟩ (.slice (some ⟨W5.heap.size, 0, none⟩) n n)) b1 b2 b3 e1 e2 e3 w.heap.size fb ip id r ln (if p1 then Value.iface 72 (.pointer (some ⟨b1, 0, none⟩)) else .nilIface) (if p2 then Value.iface 57 (.pointer (some ⟨b2, 0, none⟩)) else .nilIface) (if p3 then Value.iface 57 (.pointer (some ⟨b3, 0, none⟩)) else .nilIface) nb W5.heap.size n (fun i => if i < 0 then zs.getD i ByteArray.empty else ⟨#[]⟩) :=
          ⟨(HDV.out.belowN hb4).setT HF4.out d3 (by decide) (by decide) _, (Lib.heap_setCell_same HF4.out _).trans (by simp [fnCells]), (hp4.congr (fun i _ => by rw [if_neg (by omega)])).keep (Below.heap_setCell w4 _ _ _ (by show W5.heap.size ≠ nb; omega)), d3, hge5⟩
        generalize w4.setCell ⟨nb, 3, none⟩ (.slice (some ⟨W5.heap.size, 0, none⟩) n n) = W6 at HLP ⊢
        generalize W5.heap.size = g at HLP hge5 ⊢
        clear hb4 hown4 hg4 hp4 HDV HFN HF4 c3 z3
        clear w4
        go_loopw [33] (fun i wr => ∃ q : Nat, q ≤ n ∧ i = .int .i64 q ∧ Hid (FsL w wr b1 b2 b3 e1 e2 e3 w.heap.size fb ip id r ln (if p1 then Value.iface 72 (.pointer (some ⟨b1, 0, none⟩)) else .nilIface) (if p2 then Value.iface 57 (.pointer (some ⟨b2, 0, none⟩)) else .nilIface) (if p3 then Value.iface 57 (.pointer (some ⟨b3, 0, none⟩)) else .nilIface) nb g n (fun i => if i < q then zs.getD i ByteArray.empty else ⟨#[]⟩))) (fun i _ => n - (intOf i).toNat)
        case atStart => exact ⟨0, Nat.zero_le _, rfl, Lib.hid HLP⟩
        case round =>
          obtain ⟨q, hq, rfl, HS⟩ := hrel
          by_cases hlt : q < n
          · obtain ⟨b, off, rfl, hb, hcc⟩ := HI.out.cell (k := q) (by rw [HL.out]; exact hlt)
            have hs := HS.out
            have hc1 : wr.cell? ⟨b, off + q, none⟩ = some (.string (zs.getD q ByteArray.empty)) := (hs.base.base.below.cell (p := ⟨b, off + q, none⟩) hb).trans (hcc q (by rw [HL.out]; exact hlt))
            have hc2 : wr.cell? ⟨g, q * 11 + 1, none⟩ = some (.string ⟨#[]⟩) := by
              have := hs.par.cell hlt (j := 1) (by omega)
              rw [if_neg (Nat.lt_irrefl q)] at this
              exact this
            have hf2 : wr.frozen? ⟨g, q * 11 + 1, none⟩ = false := hs.par.frozen _
            have hc3 : wr.cell? ⟨nb, 3, none⟩ = some (.slice (some ⟨g, 0, none⟩) n n) := (cell_of_row _ _ 3 _ _ _ hs.fn).trans rfl
            have i5 : (0 : Int) ≤ (q : Int) := Int.natCast_nonneg _
            have i6 : (q : Int) < (n : Int) := by omega
            clear hs hcc HLP
            obtain ⟨t, ht⟩ : ∃ t, zs.getD q ByteArray.empty = t := ⟨_, rfl⟩
            rw [ht] at hc1
            have HT := Lib.hid ht
            clear ht
            go_wp2_with fail
            go_region
            go_wp2
            go_roundw
            case rel => exact ⟨q + 1, by omega, by go_num, Lib.hid ((HS.out.name hlt t).congr (fun i hi => by
              have ht := HT.out
              by_cases e : i = q
              · rw [e, if_pos rfl, if_pos (by omega), ht]
              · rw [if_neg e]
                by_cases e2 : i < q
                · rw [if_pos e2, if_pos (by omega)]
                · rw [if_neg e2, if_neg (by omega)])).drew⟩
            case measure => simp [intOf]; omega
          · obtain rfl : n = q := by omega
            go_wp2_with fail
            go_meet
            exact Lib.hid ⟨rfl, HS.out.base, ⟨some ⟨g, 0, none⟩, n, n, HS.out.fn, g, rfl, rfl, HS.out.par.congr (fun i hi => if_pos hi), by omega⟩, HS.out.ge⟩
  case rest =>
  obtain ⟨rfl, hd⟩ := hcut.out
  have HD6 := Lib.hid hd
  clear hd hcut HD5
  clear W5
  go_upto_if 174 with (fail)
  go_cut [28] from 174 to 174 (fun s28 wd => Hid (s28 = .bool p2 ∧ FsF w wd b1 b2 b3 e1 e2 e3 w.heap.size fb ip id r ln (.pointer none) (if p1 then Value.iface 72 (.pointer (some ⟨b1, 0, none⟩)) else .nilIface) (if p2 then Value.iface 57 (.pointer (some ⟨b2, 0, none⟩)) else .nilIface) (if p3 then Value.iface 57 (.pointer (some ⟨b3, 0, none⟩)) else .nilIface) nb (if p2 then Value.iface 57 (.pointer (some ⟨b2, 0, none⟩)) else .nilIface) (if pp then some (n, (fun i => zs.getD i ByteArray.empty)) else none)))
  case first =>
    cases p2 with
    | false =>
      go_wp2_with fail
      go_meet
      exact Lib.hid ⟨rfl, HD6.out⟩
    | true =>
      obtain ⟨_, ⟨pa, pn, pc, d2, _⟩, _⟩ := HD6.out
      go_wp2_with fail
      refine (setFB nb b2 .nilIface _ ((cell_of_row _ _ 2 _ _ _ d2).trans rfl) (frozen_of d2 2)).mono ?_
      rintro e w2 ⟨rfl, rfl⟩
      clear d2
      go_wp2_with fail
      go_meet
      exact Lib.hid ⟨rfl, HD6.out.body _⟩
  case rest =>
  obtain ⟨rfl, hd⟩ := hcut.out
  have HD7 := Lib.hid hd
  clear hd hcut HD6
  go_upto_if 178 with (fail)
  go_cut [30] from 178 to 178 (fun s30 wd => Hid (s30 = .bool pm ∧ FsF w wd b1 b2 b3 e1 e2 e3 w.heap.size fb ip id r ln (if pm then Value.pointer (some ⟨nb, 0, none⟩) else .pointer none) (if p1 then Value.iface 72 (.pointer (some ⟨b1, 0, none⟩)) else .nilIface) (if p2 then Value.iface 57 (.pointer (some ⟨b2, 0, none⟩)) else .nilIface) (if p3 then Value.iface 57 (.pointer (some ⟨b3, 0, none⟩)) else .nilIface) nb (if p2 then Value.iface 57 (.pointer (some ⟨b2, 0, none⟩)) else .nilIface) (if pp then some (n, (fun i => zs.getD i ByteArray.empty)) else none)))
  case first =>
    cases pm with
    | false =>
      go_wp2_with fail
      go_meet
      exact Lib.hid ⟨rfl, HD7.out⟩
    | true =>
      have k0 : wc.cell? ⟨fb, 0, none⟩ = some (.pointer none) := (cell_of_row _ _ 0 _ _ _ HD7.out.base.base.fld).trans rfl
      have z0 : wc.frozen? ⟨fb, 0, none⟩ = false := frozen_of HD7.out.base.base.fld 0
      go_wp2_with fail
      go_meet
      exact Lib.hid ⟨rfl, HD7.out.meth _⟩
  case rest =>
  obtain ⟨rfl, hd⟩ := hcut.out
  have HD8 := Lib.hid hd
  clear hd hcut HD7 hinf hz0 hz1 hz2
  go_wp2_with fail
  refine (zzCloneField fb (if pm then Value.pointer (some ⟨nb, 0, none⟩) else .pointer none) (.pointer ip) (if p1 then Value.iface 72 (.pointer (some ⟨b1, 0, none⟩)) else .nilIface) (if p2 then Value.iface 57 (.pointer (some ⟨b2, 0, none⟩)) else .nilIface) (if p3 then Value.iface 57 (.pointer (some ⟨b3, 0, none⟩)) else .nilIface) r n0 (if pm then some ((if p2 then Leaf.var e2 n0 [] none else .nil), (if pp then some (n, (fun i => zs.getD i ByteArray.empty)) else none)) else none) (if p1 then Leaf.lit e1 ⟨#[]⟩ ⟨#[]⟩ 1 n0 [] none else .nil) (if p2 then Leaf.var e2 n0 [] none else .nil) (if p3 then Leaf.var e3 n0 [] none else .nil) wc HD8.out.base.base.fld (fsMet HD8.out pm) (leaf1 HD8.out.base p1) (leaf2 HD8.out.base p2) (leaf3 HD8.out.base p3)).mono ?_
  intro e W7 hp
  obtain rfl := hp.1
  obtain ⟨m, v1, v2, v3, hR⟩ := fsAfter HD8.out hp
  have hM := HD8.out.base.base.below.size
  have HR := Lib.hid hR
  clear hR hp HD8
  generalize wc.heap.size = M at HR hM
  clear wc
  as_aux_lemma =>
    subst hr
    have g0 : W7.cell? ⟨fb, 1, none⟩ = some (.pointer ip) := (cell_of_row _ _ 1 _ _ _ HR.out.old.base.base.fld).trans rfl
    have g1 : W7.cell? ⟨fb, 9, none⟩ = some (.pointer none) := (cell_of_row _ _ 9 _ _ _ HR.out.old.base.base.fld).trans rfl
    have g2 : W7.cell? ⟨fb, 10, none⟩ = some (.string ⟨#[102, 46, 106, 115, 111, 110, 110, 101, 116]⟩) := (cell_of_row _ _ 10 _ _ _ HR.out.old.base.base.fld).trans rfl
    have g3 : W7.cell? ⟨fb, 11, none⟩ = some (.int .i64 ln) := (cell_of_row _ _ 11 _ _ _ HR.out.old.base.base.fld).trans rfl
    have g4 : W7.cell? ⟨fb, 12, none⟩ = some (.int .i64 1) := (cell_of_row _ _ 12 _ _ _ HR.out.old.base.base.fld).trans rfl
    have g5 : W7.cell? ⟨fb, 13, none⟩ = some (.int .i64 ln) := (cell_of_row _ _ 13 _ _ _ HR.out.old.base.base.fld).trans rfl
    have g6 : W7.cell? ⟨fb, 14, none⟩ = some (.int .i64 2) := (cell_of_row _ _ 14 _ _ _ HR.out.old.base.base.fld).trans rfl
    have g7 : W7.cell? ⟨fb, 15, none⟩ = some (.int .i64 kd) := (cell_of_row _ _ 15 _ _ _ HR.out.old.base.base.fld).trans rfl
    have g8 : W7.cell? ⟨fb, 16, none⟩ = some (.int .i64 hd) := (cell_of_row _ _ 16 _ _ _ HR.out.old.base.base.fld).trans rfl
    have g9 : W7.cell? ⟨fb, 17, none⟩ = some (.bool ss) := (cell_of_row _ _ 17 _ _ _ HR.out.old.base.base.fld).trans rfl
    have m0 : W7.cell? ⟨w.heap.size, 0, none⟩ = some (.pointer none) := (cell_of_row _ _ 0 _ _ _ HR.out.old.base.base.loc).trans rfl
    have m1 : W7.cell? ⟨w.heap.size, 1, none⟩ = some (.string ⟨#[102, 46, 106, 115, 111, 110, 110, 101, 116]⟩) := (cell_of_row _ _ 1 _ _ _ HR.out.old.base.base.loc).trans rfl
    have m2 : W7.cell? ⟨w.heap.size, 2, none⟩ = some (.int .i64 ln) := (cell_of_row _ _ 2 _ _ _ HR.out.old.base.base.loc).trans rfl
    have m3 : W7.cell? ⟨w.heap.size, 3, none⟩ = some (.int .i64 1) := (cell_of_row _ _ 3 _ _ _ HR.out.old.base.base.loc).trans rfl
    have m4 : W7.cell? ⟨w.heap.size, 4, none⟩ = some (.int .i64 ln) := (cell_of_row _ _ 4 _ _ _ HR.out.old.base.base.loc).trans rfl
    have m5 : W7.cell? ⟨w.heap.size, 5, none⟩ = some (.int .i64 2) := (cell_of_row _ _ 5 _ _ _ HR.out.old.base.base.loc).trans rfl
    have q0 : ∀ w, (binOp .neq 50 (.pointer ip) (.pointer ip)).run Tryf.prog w = .ok (.bool false) w := fun w => neqPtr (te := 51) (n := 1) Tryf.underlying50 (by kernel_rfl) ip w
    obtain ⟨r, hr⟩ : ∃ r, r = locCells ln ++ [.int .i64 kd, .int .i64 hd, .bool ss] := ⟨_, rfl⟩
    rw [← hr] at HR
    go_wp2_with fail
    go_quiet (fail)
    go_upto_region 42 with (fail)
    clear g0 g1 g2 g3 g4 g5 g6 g7 g8 g9 m0 m1 m2 m3 m4 m5 q0
    have hR := HR.out.drewN nq
    generalize W7.drewN nq = W8 at hR ⊢
    have HR0 := Lib.hid hR
    clear hR HR
    clear W7
    go_cut [231] from 223 to 231 (fun s231 wd => Hid (s231 = .bool false ∧ (FsR w wd M b1 b2 b3 e1 e2 e3 w.heap.size fb ip id r ln m v1 v2 v3 nb (if p2 then Value.iface 57 (.pointer (some ⟨b2, 0, none⟩)) else .nilIface) (if pp then some (n, (fun i => zs.getD i ByteArray.empty)) else none) (if pm then some ((if p2 then Leaf.var e2 n0 [] none else .nil), (if pp then some (n, (fun i => zs.getD i ByteArray.empty)) else none)) else none) (if p1 then Leaf.lit e1 ⟨#[]⟩ ⟨#[]⟩ 1 n0 [] none else .nil) (if p2 then Leaf.var e2 n0 [] none else .nil) (if p3 then Leaf.var e3 n0 [] none else .nil))))
    case first =>
      rcases HR0.out.old.base.base.idc with rfl | ⟨q, rfl, _, hq⟩
      · go_wp2_with fail
        go_meet
        exact Lib.hid ⟨rfl, HR0.out⟩
      · have y0 : W8.cell? ⟨q, 0, none⟩ = some (.string id) := (cell_of_row _ _ 0 _ _ _ hq).trans rfl
        clear hq
        go_wp2_with fail
        go_meet
        exact Lib.hid ⟨rfl, HR0.out⟩
    case rest =>
    obtain ⟨rfl, hR⟩ := hcut.out
    clear hcut HR0
    clear W8
    have qs : ∀ (w : World) (a : Option Addr) (n c n' c' : Nat), (binOp .eql 38 (.slice a n c) (.slice none n' c')).run Tryf.prog w = .ok (.bool a.isNone) w := fun w a n c n' c' => Lib.run_eql_slice_nil w _ _ a n c n' c' Tryf.underlying38
    go_upto_if 232 with (fail)
    have HR1 := Lib.hid hR
    clear hR
    go_cut [27] from 232 to 232 (fun s27 wd => Hid (s27 = .bool p1 ∧ (FsR w wd M b1 b2 b3 e1 e2 e3 w.heap.size fb ip id r ln m v1 v2 v3 nb (if p2 then Value.iface 57 (.pointer (some ⟨b2, 0, none⟩)) else .nilIface) (if pp then some (n, (fun i => zs.getD i ByteArray.empty)) else none) (if pm then some ((if p2 then Leaf.var e2 n0 [] none else .nil), (if pp then some (n, (fun i => zs.getD i ByteArray.empty)) else none)) else none) (if p1 then Leaf.lit e1 ⟨#[]⟩ ⟨#[]⟩ 1 n0 [] none else .nil) (if p2 then Leaf.var e2 n0 [] none else .nil) (if p3 then Leaf.var e3 n0 [] none else .nil))))
    case first =>
      cases p1 with
      | false =>
        obtain rfl : v1 = .nilIface := HR1.out.l1
        have f6 : wc.cell? ⟨fb, 6, none⟩ = some .nilIface := (cell_of_row _ _ 6 _ _ _ HR1.out.old.base.base.fld).trans rfl
        go_wp2_with fail
        refine (nilE1 fb wc f6).mono ?_
        rintro e w8 ⟨rfl, rfl⟩
        clear f6
        go_wp2_with fail
        go_meet
        exact Lib.hid ⟨rfl, HR1.out⟩
      | true =>
        obtain ⟨lb, n1, k1, rfl, r1, nn⟩ : LeafNew M wc v1 (Leaf.lit e1 ⟨#[]⟩ ⟨#[]⟩ 1 n0 [] none) := HR1.out.l1
        obtain ⟨_, ⟨gv, gc, hv, _, _⟩, _⟩ := nn
        have f6 : wc.cell? ⟨fb, 6, none⟩ = some (.iface 72 (.pointer (some ⟨lb, 0, none⟩))) := (cell_of_row _ _ 6 _ _ _ HR1.out.old.base.base.fld).trans rfl
        have y0 : wc.cell? ⟨lb, 0, none⟩ = some (.string e1) := (cell_of_row _ _ 0 _ _ _ r1).trans rfl
        have y1 : wc.cell? ⟨lb, 12, none⟩ = some (.int .i64 1) := (cell_of_row _ _ 12 _ _ _ r1).trans rfl
        have y2 : wc.cell? ⟨lb, 5, none⟩ = some (.slice (some ⟨gv, 0, none⟩) 0 gc) := (cell_of_row _ _ 5 _ _ _ r1).trans (congrArg some hv)
        have y3 : (binOp .eql 72 (.pointer (some ⟨lb, 0, none⟩)) (.pointer (some ⟨b1, 0, none⟩))).run Tryf.prog wc = .ok (.bool false) wc := eq_heads (P := Tryf.prog) Tryf.underlying72 (te := 75) (n := 13) (by kernel_rfl) (by decide) (by have := HR1.out.lt; omega) r1 HR1.out.old.base.lit 0
        clear r1 hv
        go_wp2_with fail
        refine (getE1 fb lb wc f6).mono ?_
        rintro e w8 ⟨rfl, rfl⟩
        clear f6
        go_wp2_with fail
        go_meet
        exact Lib.hid ⟨rfl, HR1.out⟩
    case rest =>
    obtain ⟨rfl, hR⟩ := hcut.out
    clear hcut HR1
    go_upto_if 268 with (fail)
    have HR2 := Lib.hid hR
    clear hR
    go_cut [28] from 268 to 268 (fun s28 wd => Hid (s28 = .bool p2 ∧ (FsR w wd M b1 b2 b3 e1 e2 e3 w.heap.size fb ip id r ln m v1 v2 v3 nb (if p2 then Value.iface 57 (.pointer (some ⟨b2, 0, none⟩)) else .nilIface) (if pp then some (n, (fun i => zs.getD i ByteArray.empty)) else none) (if pm then some ((if p2 then Leaf.var e2 n0 [] none else .nil), (if pp then some (n, (fun i => zs.getD i ByteArray.empty)) else none)) else none) (if p1 then Leaf.lit e1 ⟨#[]⟩ ⟨#[]⟩ 1 n0 [] none else .nil) (if p2 then Leaf.var e2 n0 [] none else .nil) (if p3 then Leaf.var e3 n0 [] none else .nil))))
    case first =>
      cases p2 with
      | false =>
        obtain rfl : v2 = .nilIface := HR2.out.l2
        have f6 : wc.cell? ⟨fb, 7, none⟩ = some .nilIface := (cell_of_row _ _ 7 _ _ _ HR2.out.old.base.base.fld).trans rfl
        go_wp2_with fail
        refine (nilE2 fb wc f6).mono ?_
        rintro e w8 ⟨rfl, rfl⟩
        clear f6
        go_wp2_with fail
        go_meet
        exact Lib.hid ⟨rfl, HR2.out⟩
      | true =>
        obtain ⟨lb, n1, k1, rfl, r1, nn⟩ : LeafNew M wc v2 (Leaf.var e2 n0 [] none) := HR2.out.l2
        obtain ⟨_, ⟨gv, gc, hv, _, _⟩, _⟩ := nn
        have f6 : wc.cell? ⟨fb, 7, none⟩ = some (.iface 57 (.pointer (some ⟨lb, 0, none⟩))) := (cell_of_row _ _ 7 _ _ _ HR2.out.old.base.base.fld).trans rfl
        have y0 : wc.cell? ⟨lb, 0, none⟩ = some (.string e2) := (cell_of_row _ _ 0 _ _ _ r1).trans rfl
        have y2 : wc.cell? ⟨lb, 3, none⟩ = some (.slice (some ⟨gv, 0, none⟩) 0 gc) := (cell_of_row _ _ 3 _ _ _ r1).trans (congrArg some hv)
        have y3 : (binOp .eql 57 (.pointer (some ⟨lb, 0, none⟩)) (.pointer (some ⟨b2, 0, none⟩))).run Tryf.prog wc = .ok (.bool false) wc := eq_heads (P := Tryf.prog) Tryf.underlying57 (te := 60) (n := 10) (by kernel_rfl) (by decide) (by have := HR2.out.lt; omega) r1 HR2.out.old.base.var2 0
        clear r1 hv
        go_wp2_with fail
        refine (getE2 fb lb wc f6).mono ?_
        rintro e w8 ⟨rfl, rfl⟩
        clear f6
        go_wp2_with fail
        go_meet
        exact Lib.hid ⟨rfl, HR2.out⟩
    case rest =>
    obtain ⟨rfl, hR⟩ := hcut.out
    clear hcut HR2
    go_upto_if 297 with (fail)
    have HR3 := Lib.hid hR
    clear hR
    go_cut [29] from 297 to 297 (fun s29 wd => Hid (s29 = .bool p3 ∧ (FsR w wd M b1 b2 b3 e1 e2 e3 w.heap.size fb ip id r ln m v1 v2 v3 nb (if p2 then Value.iface 57 (.pointer (some ⟨b2, 0, none⟩)) else .nilIface) (if pp then some (n, (fun i => zs.getD i ByteArray.empty)) else none) (if pm then some ((if p2 then Leaf.var e2 n0 [] none else .nil), (if pp then some (n, (fun i => zs.getD i ByteArray.empty)) else none)) else none) (if p1 then Leaf.lit e1 ⟨#[]⟩ ⟨#[]⟩ 1 n0 [] none else .nil) (if p2 then Leaf.var e2 n0 [] none else .nil) (if p3 then Leaf.var e3 n0 [] none else .nil))))
    case first =>
      cases p3 with
      | false =>
        obtain rfl : v3 = .nilIface := HR3.out.l3
        have f6 : wc.cell? ⟨fb, 8, none⟩ = some .nilIface := (cell_of_row _ _ 8 _ _ _ HR3.out.old.base.base.fld).trans rfl
        go_wp2_with fail
        refine (nilE3 fb wc f6).mono ?_
        rintro e w8 ⟨rfl, rfl⟩
        clear f6
        go_wp2_with fail
        go_meet
        exact Lib.hid ⟨rfl, HR3.out⟩
      | true =>
        obtain ⟨lb, n1, k1, rfl, r1, nn⟩ : LeafNew M wc v3 (Leaf.var e3 n0 [] none) := HR3.out.l3
        obtain ⟨_, ⟨gv, gc, hv, _, _⟩, _⟩ := nn
        have f6 : wc.cell? ⟨fb, 8, none⟩ = some (.iface 57 (.pointer (some ⟨lb, 0, none⟩))) := (cell_of_row _ _ 8 _ _ _ HR3.out.old.base.base.fld).trans rfl
        have y0 : wc.cell? ⟨lb, 0, none⟩ = some (.string e3) := (cell_of_row _ _ 0 _ _ _ r1).trans rfl
        have y2 : wc.cell? ⟨lb, 3, none⟩ = some (.slice (some ⟨gv, 0, none⟩) 0 gc) := (cell_of_row _ _ 3 _ _ _ r1).trans (congrArg some hv)
        have y3 : (binOp .eql 57 (.pointer (some ⟨lb, 0, none⟩)) (.pointer (some ⟨b3, 0, none⟩))).run Tryf.prog wc = .ok (.bool false) wc := eq_heads (P := Tryf.prog) Tryf.underlying57 (te := 60) (n := 10) (by kernel_rfl) (by decide) (by have := HR3.out.lt; omega) r1 HR3.out.old.base.var3 0
        clear r1 hv
        go_wp2_with fail
        refine (getE3 fb lb wc f6).mono ?_
        rintro e w8 ⟨rfl, rfl⟩
        clear f6
        go_wp2_with fail
        go_meet
        exact Lib.hid ⟨rfl, HR3.out⟩
    case rest =>
    obtain ⟨rfl, hR⟩ := hcut.out
    clear hcut HR3
    have HR4 := Lib.hid hR
    clear hR
    go_upto_region 62 with (fail)
    go_cut [30, 332] from 326 to 332 (fun s30 s332 wd => Hid (s30 = .bool pm ∧ s332 = .bool false ∧ (FsR w wd M b1 b2 b3 e1 e2 e3 w.heap.size fb ip id r ln m v1 v2 v3 nb (if p2 then Value.iface 57 (.pointer (some ⟨b2, 0, none⟩)) else .nilIface) (if pp then some (n, (fun i => zs.getD i ByteArray.empty)) else none) (if pm then some ((if p2 then Leaf.var e2 n0 [] none else .nil), (if pp then some (n, (fun i => zs.getD i ByteArray.empty)) else none)) else none) (if p1 then Leaf.lit e1 ⟨#[]⟩ ⟨#[]⟩ 1 n0 [] none else .nil) (if p2 then Leaf.var e2 n0 [] none else .nil) (if p3 then Leaf.var e3 n0 [] none else .nil))))
    case first =>
      cases pm with
      | false =>
        obtain rfl : m = .pointer none := HR4.out.met
        have f0 : wc.cell? ⟨fb, 0, none⟩ = some (.pointer none) := (cell_of_row _ _ 0 _ _ _ HR4.out.old.base.base.fld).trans rfl
        go_wp2_with fail
        go_meet
        exact Lib.hid ⟨rfl, rfl, HR4.out⟩
      | true =>
        obtain ⟨rb, rfl, _⟩ : MetNew M wc m n0 (some ((if p2 then Leaf.var e2 n0 [] none else .nil), (if pp then some (n, (fun i => zs.getD i ByteArray.empty)) else none))) := HR4.out.met
        have f0 : wc.cell? ⟨fb, 0, none⟩ = some (.pointer (some ⟨rb, 0, none⟩)) := (cell_of_row _ _ 0 _ _ _ HR4.out.old.base.base.fld).trans rfl
        go_wp2_with fail
        go_meet
        exact Lib.hid ⟨rfl, rfl, HR4.out⟩
    case rest =>
    obtain ⟨rfl, rfl, hR⟩ := hcut.out
    have HR5 := Lib.hid hR
    clear hR hcut HR4
    go_upto_if 333 with (fail)
    go_cut [28, 30, 31] from 333 to 333 (fun s28 s30 s31 wd => Hid (s28 = .bool p2 ∧ (FsR w wd M b1 b2 b3 e1 e2 e3 w.heap.size fb ip id r ln m v1 v2 v3 nb (if p2 then Value.iface 57 (.pointer (some ⟨b2, 0, none⟩)) else .nilIface) (if pp then some (n, (fun i => zs.getD i ByteArray.empty)) else none) (if pm then some ((if p2 then Leaf.var e2 n0 [] none else .nil), (if pp then some (n, (fun i => zs.getD i ByteArray.empty)) else none)) else none) (if p1 then Leaf.lit e1 ⟨#[]⟩ ⟨#[]⟩ 1 n0 [] none else .nil) (if p2 then Leaf.var e2 n0 [] none else .nil) (if p3 then Leaf.var e3 n0 [] none else .nil))))
    case first =>
      as_aux_lemma =>
        cases pm with
        | false =>
          go_wp2_with fail
          go_meet
          exact Lib.hid ⟨rfl, HR5.out⟩
        | true =>
          obtain ⟨W9, rfl⟩ : ∃ W9, W9 = wc := ⟨wc, rfl⟩
          obtain ⟨rb, rfl, v', pa, pn, pc, nf, k1, r1, lx, pnew, nn⟩ : MetNew M W9 m n0 (some ((if p2 then Leaf.var e2 n0 [] none else .nil), (if pp then some (n, (fun i => zs.getD i ByteArray.empty)) else none))) := HR5.out.met
          obtain ⟨_, ⟨gv, gc, hv, _, _⟩, _⟩ := nn
          obtain ⟨pa0, pn0, pc0, r0, pold⟩ := HR5.out.old.fn
          obtain ⟨rfl, hle, hnil, hpos⟩ := fsPars pold pnew
          have f0 : W9.cell? ⟨fb, 0, none⟩ = some (.pointer (some ⟨rb, 0, none⟩)) := (cell_of_row _ _ 0 _ _ _ HR5.out.old.base.base.fld).trans rfl
          have c6 : W9.cell? ⟨rb, 6, none⟩ = some (.slice (some ⟨gv, 0, none⟩) 0 gc) := (cell_of_row _ _ 6 _ _ _ r1).trans (congrArg some hv)
          have c3 : W9.cell? ⟨rb, 3, none⟩ = some (.slice pa pn pc) := (cell_of_row _ _ 3 _ _ _ r1).trans rfl
          have c2 : W9.cell? ⟨rb, 2, none⟩ = some v' := (cell_of_row _ _ 2 _ _ _ r1).trans rfl
          have c30 : W9.cell? ⟨nb, 3, none⟩ = some (.slice pa0 pn pc0) := (cell_of_row _ _ 3 _ _ _ r0).trans rfl
          have y3 : (binOp .eql 69 (.pointer (some ⟨rb, 0, none⟩)) (.pointer (some ⟨nb, 0, none⟩))).run Tryf.prog W9 = .ok (.bool false) W9 := eq_heads (P := Tryf.prog) Tryf.underlying69 (te := 80) (n := 14) (by kernel_rfl) (by decide) (by have := HR5.out.lt; omega) r1 r0 0
          have qp : ∀ w, (binOp .eql 78 (.slice pa pn pc) (.slice none 0 0)).run Tryf.prog w = .ok (.bool (!pp)) w := fun w => by rw [← hnil]; exact Lib.run_eql_slice_nil w _ _ pa pn pc 0 0 Tryf.underlying78
          have bp : ((!pp) == pp) = false := by cases pp <;> rfl
          have HPOS := Lib.hid hpos
          have HPLT := Lib.hid (HR5.out.plt pa0 pn pc0 r0)
          have HLX := Lib.hid lx
          have HR1 := Lib.hid r1
          clear hpos hnil pnew pold r1 r0 lx hv
          go_upto_region 70 with (fail)
          clear f0 c6 y3 qp bp
          go_quiet (fail)
          go_wp2
          go_loopw [38] (fun i wr => ∃ q k : Nat, q ≤ pn ∧ i = .int .i64 q ∧ Hid (wr = W9.drewN k)) (fun i _ => pn - (intOf i).toNat)
          case atStart => exact ⟨0, _, Nat.zero_le _, rfl, Lib.hid rfl⟩
          case round =>
            obtain ⟨q, k, hq, rfl, HW⟩ := hrel
            have d3 : wr.cell? ⟨rb, 3, none⟩ = some (.slice pa pn pc) := by rw [HW.out]; exact c3
            by_cases hlt : q < pn
            · obtain ⟨hpn, g, g', C, C', rfl, rfl, hM9, hC, hC', hrow⟩ := HPOS.out (by omega)
              obtain ⟨b, off, rfl, hb, hcc⟩ := HI.out.cell (k := q) (by rw [HL.out]; omega)
              have hc1 : wr.cell? ⟨b, off + q, none⟩ = some (.string (zs.getD q ByteArray.empty)) := by rw [HW.out]; exact (HR5.out.old.base.base.below.cell (p := ⟨b, off + q, none⟩) hb).trans (hcc q (by rw [HL.out]; omega))
              have hc2 : wr.cell? ⟨g', q * 11 + 1, none⟩ = some (.string (zs.getD q ByteArray.empty)) := by rw [HW.out]; exact hrow.cell (by omega) (j := 1) (by omega)
              have i5 : (0 : Int) ≤ (q : Int) := Int.natCast_nonneg _
              have i6 : (q : Int) < (pn : Int) := by omega
              have i7 : (q : Int) < (n : Int) := by omega
              clear hcc hrow hC hC' c2 c3 c30
              generalize zs.getD q ByteArray.empty = t at hc1 hc2
              go_wp2
              go_quiet (fail)
              go_wp2
              go_roundw
              case rel => exact ⟨q + 1, _, by omega, by go_num, Lib.hid (by rw [HW.out, World.drewN_drewN])⟩
              case measure => simp [intOf]; omega
            · obtain rfl : pn = q := by omega
              have d30 : wr.cell? ⟨nb, 3, none⟩ = some (.slice pa0 pn pc0) := by rw [HW.out]; exact c30
              go_upto_region 77 with (fail)
              go_cut [407] from 389 to 407 (fun s407 wd => Hid (s407 = .bool false ∧ ∃ k, wd = W9.drewN k))
              case first =>
                by_cases h0 : 0 < pn
                · obtain ⟨hpn, g, g', C, C', rfl, rfl, hM9, hC, hC', hrow⟩ := HPOS.out h0
                  subst hpn
                  have y4 : ∀ j, (binOp .eql 88 (.pointer (some ⟨g', 0, none⟩)) (.pointer (some ⟨g, 0, none⟩))).run Tryf.prog (wr.drewN j) = .ok (.bool false) (wr.drewN j) := fun j => eq_heads (P := Tryf.prog) Tryf.underlying88 (te := 82) (n := 11) (by kernel_rfl) (by decide) (fun e => by
                    have := HPLT.out g rfl
                    omega) (by rw [HW.out]; exact hC') (by rw [HW.out]; exact hC) j
                  have i8 : (0 : Int) < (pn : Int) := by omega
                  have i9 : decide ((0 : Int) < (pn : Int)) = true := decide_eq_true i8
                  clear hrow hC hC'
                  go_quiet (fail)
                  go_wp2
                  go_meet
                  exact Lib.hid ⟨rfl, _, by rw [HW.out, World.drewN_drewN]⟩
                · have i8 : ¬ (0 : Int) < (pn : Int) := by omega
                  have i9 : decide ((0 : Int) < (pn : Int)) = false := decide_eq_false i8
                  go_quiet (fail)
                  go_wp2
                  go_meet
                  exact Lib.hid ⟨rfl, _, by rw [HW.out, World.drewN_drewN]⟩
              case rest =>
              obtain ⟨rfl, k2, hw⟩ := hcut.out
              have HW2 := Lib.hid hw
              clear hw hcut d3 d30
              have d2 : wc.cell? ⟨rb, 2, none⟩ = some v' := by rw [HW2.out]; exact c2
              clear c2 c3 c30
              go_upto_if 408 with (fail)
              cases p2 with
              | false =>
                obtain rfl : v' = .nilIface := HLX.out
                go_wp2_with fail
                refine (nilFB rb wc d2).mono ?_
                rintro e w8 ⟨rfl, rfl⟩
                clear d2
                go_wp2_with fail
                go_meet
                exact Lib.hid ⟨rfl, by rw [HW2.out]; exact HR5.out.drewN k2⟩
              | true =>
                obtain ⟨mb, n2, k3, rfl, r2, _⟩ : LeafNew M W9 v' (Leaf.var e2 n0 [] none) := HLX.out
                have r3 : wc.heap[mb]? = some (.cells (varCells e2 n2) 60 (0, 0)) := by rw [HW2.out]; exact r2
                have b3' : wc.heap[b2]? = some (.cells (varCells e2 n0) 60 (0, 0)) := by rw [HW2.out]; exact HR5.out.old.base.var2
                have y0 : wc.cell? ⟨mb, 0, none⟩ = some (.string e2) := (cell_of_row _ _ 0 _ _ _ r3).trans rfl
                have y3 : (binOp .eql 57 (.pointer (some ⟨mb, 0, none⟩)) (.pointer (some ⟨b2, 0, none⟩))).run Tryf.prog wc = .ok (.bool false) wc := eq_heads (P := Tryf.prog) Tryf.underlying57 (te := 60) (n := 10) (by kernel_rfl) (by decide) (by have := HR5.out.lt; omega) r3 b3' 0
                clear r2 r3 b3'
                go_wp2_with fail
                refine (getFB rb mb wc d2).mono ?_
                rintro e w8 ⟨rfl, rfl⟩
                clear d2
                go_wp2_with fail
                go_meet
                exact Lib.hid ⟨rfl, by rw [HW2.out]; exact HR5.out.drewN k2⟩
    case rest =>
    obtain ⟨rfl, hR⟩ := hcut.out
    have HR6 := Lib.hid hR
    clear hR hcut HR5
    have z1 : wc.cell? ⟨b1, 0, none⟩ = some (.string e1) := (cell_of_row _ _ 0 _ _ _ HR6.out.old.base.lit).trans rfl
    have z2 : wc.cell? ⟨b2, 0, none⟩ = some (.string e2) := (cell_of_row _ _ 0 _ _ _ HR6.out.old.base.var2).trans rfl
    have z3 : wc.cell? ⟨b3, 0, none⟩ = some (.string e3) := (cell_of_row _ _ 0 _ _ _ HR6.out.old.base.var3).trans rfl
    go_upto_region 87 with (fail)
    clear z1 z2 z3
    cases p2 with
    | false =>
      go_wp2
      go_ret
      exact ⟨rfl, HR6.out.old.base.base.below⟩
    | true =>
      obtain ⟨pa0, pn0, pc0, r0, _⟩ := HR6.out.old.fn
      have d2 : wc.cell? ⟨nb, 2, none⟩ = some (.iface 57 (.pointer (some ⟨b2, 0, none⟩))) := (cell_of_row _ _ 2 _ _ _ r0).trans rfl
      have qv : (binOp .neq 57 (.pointer (some ⟨b2, 0, none⟩)) (.pointer (some ⟨b2, 0, none⟩))).run Tryf.prog wc = .ok (.bool false) wc := neqVar _ _
      clear r0
      go_wp2_with fail
      refine (getFB nb b2 wc d2).mono ?_
      rintro e w8 ⟨rfl, rfl⟩
      go_wp2
      go_ret
      exact ⟨rfl, HR6.out.old.base.base.below⟩

end Go.Proofs.YtegabjiaekfmbaaFmt.fnCloneFieldSpec
