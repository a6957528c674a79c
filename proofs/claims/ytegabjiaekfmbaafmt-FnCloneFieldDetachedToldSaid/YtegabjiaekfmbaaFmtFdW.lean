/-
  The walk of FnCloneFieldDetached.
-/
import Derived.Test.YtegabjiaekfmbaaFmtFdA
import Derived.Test.YtegabjiaekfmbaaFmtFfA
namespace Go.Proofs.YtegabjiaekfmbaaFmt.fnCloneFieldDetached
open Go Go.RowKit

def rest : List Value := [.pointer none, .string ⟨#[]⟩, .int .i64 0, .int .i64 0, .int .i64 0, .int .i64 0, .int .i64 1, .int .i64 0, .bool false]
/-- The field, the literal and the two variables. -/
structure FdW (w W : World) (e1 e2 e3 : ByteArray) (b1 b2 b3 : Nat) (m v1 v2 v3 : Value) : Prop where
  fld : W.heap[w.heap.size]? = some (.cells (fldCells m (.pointer none) v1 v2 v3 rest) 71 (0, 0))
  lit : W.heap[b1]? = some (.cells (litCells e1 ⟨#[]⟩ ⟨#[]⟩ 0 n0) 75 (0, 0))
  var2 : W.heap[b2]? = some (.cells (varCells e2 n0) 60 (0, 0))
  var3 : W.heap[b3]? = some (.cells (varCells e3 n0) 60 (0, 0))
  below : Below w.heap.size w W
theorem FdW.setF {w W : World} {e1 e2 e3 : ByteArray} {b1 b2 b3 : Nat} {m v1 v2 v3 m' v1' v2' v3' : Value} (h : FdW w W e1 e2 e3 b1 b2 b3 m v1 v2 v3) (h1 : w.heap.size < b1) (h2 : w.heap.size < b2) (h3 : w.heap.size < b3) (o : Nat) (v : Value)
    (hs : (fldCells m (.pointer none) v1 v2 v3 rest).setIfInBounds o v = fldCells m' (.pointer none) v1' v2' v3' rest) : FdW w (W.setCell ⟨w.heap.size, o, none⟩ v) e1 e2 e3 b1 b2 b3 m' v1' v2' v3' :=
  ⟨(Lib.heap_setCell_same h.fld _).trans (by rw [hs]), (Below.heap_setCell W _ _ _ (by show b1 ≠ w.heap.size; omega)).trans h.lit, (Below.heap_setCell W _ _ _ (by show b2 ≠ w.heap.size; omega)).trans h.var2, (Below.heap_setCell W _ _ _ (by show b3 ≠ w.heap.size; omega)).trans h.var3, h.below.setCell (Nat.le_refl _) _⟩
theorem FdW.up {w W W' : World} {e1 e2 e3 : ByteArray} {b1 b2 b3 : Nat} {m v1 v2 v3 : Value} (h : FdW w W e1 e2 e3 b1 b2 b3 m v1 v2 v3) (hk : ∀ i, w.heap.size ≤ i → i < W.heap.size → W'.heap[i]? = W.heap[i]?) (hs : W.heap.size ≤ W'.heap.size) (h1 : w.heap.size < b1) (h2 : w.heap.size < b2) (h3 : w.heap.size < b3) (hb : Below w.heap.size W W') : FdW w W' e1 e2 e3 b1 b2 b3 m v1 v2 v3 :=
  ⟨(hk _ (Nat.le_refl _) (Array.getElem?_eq_some_iff.1 h.fld).1).trans h.fld, (hk _ (by omega) (Array.getElem?_eq_some_iff.1 h.lit).1).trans h.lit, (hk _ (by omega) (Array.getElem?_eq_some_iff.1 h.var2).1).trans h.var2, (hk _ (by omega) (Array.getElem?_eq_some_iff.1 h.var3).1).trans h.var3, h.below.trans hb⟩

theorem FdW.drew {w W : World} {e1 e2 e3 : ByteArray} {b1 b2 b3 : Nat} {m v1 v2 v3 : Value} (h : FdW w W e1 e2 e3 b1 b2 b3 m v1 v2 v3) : FdW w W.drew e1 e2 e3 b1 b2 b3 m v1 v2 v3 := ⟨h.fld, h.lit, h.var2, h.var3, drew_below h.below⟩
/-- .. and the Function with its list of parameters. -/
structure LpW (w W : World) (e1 e2 e3 : ByteArray) (b1 b2 b3 : Nat) (m v1 v2 v3 : Value) (g fb n : Nat) (v : Value) (ns : Nat → ByteArray) : Prop where
  base : FdW w W e1 e2 e3 b1 b2 b3 m v1 v2 v3
  fn : W.heap[fb]? = some (.cells (fnCells v (some ⟨g, 0, none⟩) n n n0) 80 (0, 0))
  par : ParRow W g n ns
  o1 : b1 < g
  o2 : b2 < g
  o3 : b3 < g
  o4 : g < fb
  o5 : w.heap.size < b1 ∧ w.heap.size < b2 ∧ w.heap.size < b3
theorem LpW.drew {w W : World} {e1 e2 e3 : ByteArray} {b1 b2 b3 : Nat} {m v1 v2 v3 : Value} {g fb n : Nat} {v : Value} {ns : Nat → ByteArray} (h : LpW w W e1 e2 e3 b1 b2 b3 m v1 v2 v3 g fb n v ns) : LpW w W.drew e1 e2 e3 b1 b2 b3 m v1 v2 v3 g fb n v ns := ⟨h.base.drew, h.fn, h.par.keep rfl, h.o1, h.o2, h.o3, h.o4, h.o5⟩
theorem LpW.drewN {w W : World} {e1 e2 e3 : ByteArray} {b1 b2 b3 : Nat} {m v1 v2 v3 : Value} {g fb n : Nat} {v : Value} {ns : Nat → ByteArray} (h : LpW w W e1 e2 e3 b1 b2 b3 m v1 v2 v3 g fb n v ns) (k : Nat) : LpW w (W.drewN k) e1 e2 e3 b1 b2 b3 m v1 v2 v3 g fb n v ns := ⟨⟨h.base.fld, h.base.lit, h.base.var2, h.base.var3, drewN_below h.base.below _⟩, h.fn, h.par.keep rfl, h.o1, h.o2, h.o3, h.o4, h.o5⟩
theorem LpW.after {w wc W : World} {e1 e2 e3 : ByteArray} {b1 b2 b3 : Nat} {m v1 v2 v3 m' u1 u2 u3 : Value} {g fb n : Nat} {v : Value} {ns : Nat → ByteArray} (h : LpW w wc e1 e2 e3 b1 b2 b3 m v1 v2 v3 g fb n v ns) (hf : W.heap[w.heap.size]? = some (.cells (fldCells m' (.pointer none) u1 u2 u3 rest) 71 (0, 0)))
    (hk : ∀ i, w.heap.size < i → i < wc.heap.size → W.heap[i]? = wc.heap[i]?) (hb : Below w.heap.size w W) : LpW w W e1 e2 e3 b1 b2 b3 m' u1 u2 u3 g fb n v ns :=
  ⟨⟨hf, (hk _ h.o5.1 (Array.getElem?_eq_some_iff.1 h.base.lit).1).trans h.base.lit, (hk _ h.o5.2.1 (Array.getElem?_eq_some_iff.1 h.base.var2).1).trans h.base.var2, (hk _ h.o5.2.2 (Array.getElem?_eq_some_iff.1 h.base.var3).1).trans h.base.var3, hb⟩,
    (hk _ (by have := h.o4; have := h.o1; have := h.o5.1; omega) (Array.getElem?_eq_some_iff.1 h.fn).1).trans h.fn, h.par.keep (hk _ (by have := h.o1; have := h.o5.1; omega) h.par.lt), h.o1, h.o2, h.o3, h.o4, h.o5⟩
theorem LpW.congr {w W : World} {e1 e2 e3 : ByteArray} {b1 b2 b3 : Nat} {m v1 v2 v3 : Value} {g fb n : Nat} {v : Value} {ns ms : Nat → ByteArray} (h : LpW w W e1 e2 e3 b1 b2 b3 m v1 v2 v3 g fb n v ns) (e : ∀ i, i < n → ns i = ms i) : LpW w W e1 e2 e3 b1 b2 b3 m v1 v2 v3 g fb n v ms := ⟨h.base, h.fn, h.par.congr e, h.o1, h.o2, h.o3, h.o4, h.o5⟩
theorem LpW.name {w W : World} {e1 e2 e3 : ByteArray} {b1 b2 b3 : Nat} {m v1 v2 v3 : Value} {g fb n : Nat} {v : Value} {ns : Nat → ByteArray} (h : LpW w W e1 e2 e3 b1 b2 b3 m v1 v2 v3 g fb n v ns) {q : Nat} (hq : q < n) (t : ByteArray) : LpW w (W.setCell ⟨g, q * 11 + 1, none⟩ (.string t)) e1 e2 e3 b1 b2 b3 m v1 v2 v3 g fb n v (fun i => if i = q then t else ns i) := by
  obtain ⟨h0, h1, h2, o1, o2, o3, o4, o5⟩ := h
  exact ⟨⟨(Below.heap_setCell W _ _ _ (by show w.heap.size ≠ g; omega)).trans h0.fld, (Below.heap_setCell W _ _ _ (by show b1 ≠ g; omega)).trans h0.lit, (Below.heap_setCell W _ _ _ (by show b2 ≠ g; omega)).trans h0.var2, (Below.heap_setCell W _ _ _ (by show b3 ≠ g; omega)).trans h0.var3, h0.below.setCell (by show w.heap.size ≤ g; omega) _⟩,
    (Below.heap_setCell W _ _ _ (by show fb ≠ g; omega)).trans h1, h2.set hq t, o1, o2, o3, o4, o5⟩
theorem LpW.body {w W : World} {e1 e2 e3 : ByteArray} {b1 b2 b3 : Nat} {m v1 v2 v3 : Value} {g fb n : Nat} {v : Value} {ns : Nat → ByteArray} (h : LpW w W e1 e2 e3 b1 b2 b3 m v1 v2 v3 g fb n v ns) (u : Value) : LpW w (W.setCell ⟨fb, 2, none⟩ u) e1 e2 e3 b1 b2 b3 m v1 v2 v3 g fb n u ns := by
  obtain ⟨h0, h1, h2, o1, o2, o3, o4, o5⟩ := h
  exact ⟨⟨(Below.heap_setCell W _ _ _ (by show w.heap.size ≠ fb; omega)).trans h0.fld, (Below.heap_setCell W _ _ _ (by show b1 ≠ fb; omega)).trans h0.lit, (Below.heap_setCell W _ _ _ (by show b2 ≠ fb; omega)).trans h0.var2, (Below.heap_setCell W _ _ _ (by show b3 ≠ fb; omega)).trans h0.var3, h0.below.setCell (by show w.heap.size ≤ fb; omega) _⟩,
    (Lib.heap_setCell_same h1 _).trans (by simp [fnCells]), h2.keep (Below.heap_setCell W _ _ _ (by show g ≠ fb; omega)), o1, o2, o3, o4, o5⟩
theorem LpW.meth {w W : World} {e1 e2 e3 : ByteArray} {b1 b2 b3 : Nat} {m v1 v2 v3 : Value} {g fb n : Nat} {v : Value} {ns : Nat → ByteArray} (h : LpW w W e1 e2 e3 b1 b2 b3 m v1 v2 v3 g fb n v ns) (u : Value) : LpW w (W.setCell ⟨w.heap.size, 0, none⟩ u) e1 e2 e3 b1 b2 b3 u v1 v2 v3 g fb n v ns := by
  obtain ⟨h0, h1, h2, o1, o2, o3, o4, o5⟩ := h
  exact ⟨h0.setF o5.1 o5.2.1 o5.2.2 0 u (by simp [fldCells]), (Below.heap_setCell W _ _ _ (by show fb ≠ w.heap.size; omega)).trans h1, h2.keep (Below.heap_setCell W _ _ _ (by show g ≠ w.heap.size; omega)), o1, o2, o3, o4, o5⟩

/-- The copied names, on their way. -/
def L2St (w wc W8 : World) (rb g' pn mb : Nat) (nm : NBase) (zs : List ByteArray) (q : Nat) (wr : World) : Prop :=
  (∀ i, i < wc.heap.size → wr.heap[i]? = W8.heap[i]?) ∧ wr.heap[rb]? = W8.heap[rb]? ∧ ParRow wr g' pn (fun i => if i < q then zs.getD i ByteArray.empty ++ ⟨#[33]⟩ else zs.getD i ByteArray.empty) ∧ VarSome wr mb nm ∧ Below w.heap.size w wr

set_option maxHeartbeats 3200000 in
set_option maxRecDepth 100000 in
theorem walk_b (e1 e2 e3 : ByteArray) (a : Option Addr) (n c : Nat) (zs : List ByteArray) (bm : Bool) (w : World) (hi : StrsAt w w.heap.size (.slice a n c) zs) (hl : zs.length = n) (hn : n ≤ maxLen) (h1 : e1.size ≤ maxLen) (h2 : e2.size ≤ maxLen) (h3 : e3.size ≤ maxLen) (hz : ∀ i, i < n → (zs.getD i ByteArray.empty).size ≤ maxLen) :
    Calls Tryf.prog 6 #[.string e1, .string e2, .string e3, .slice a n c, .bool bm] w fun e w' => e = .returned (.bool true) ∧ Below w.heap.size w w' := by
  obtain ⟨i0, hinf, hz0, hz1, hz2⟩ := info_parts infoPar
  have HI := Lib.hid hi
  have HL := Lib.hid hl
  have HZ := Lib.hid hz
  have HN := Lib.hid (show e1.size ≤ maxLen ∧ e2.size ≤ maxLen ∧ e3.size ≤ maxLen ∧ n ≤ maxLen from ⟨h1, h2, h3, hn⟩)
  clear hi hl hz hn h1 h2 h3
  go_enter Tryf.func6, Tryf.ntmps6
  go_wp2_with fail
  refine (bytesAt e1 e2 e3 a n c zs bm w HI.out HL.out HN.out.2.2.2 HN.out.1 HN.out.2.1 HN.out.2.2.1 HZ.out).mono ?_
  rintro e w' ⟨⟨b, rfl, hfit⟩, rfl⟩
  cases b with
  | false =>
    go_wp2
    go_ret
    exact ⟨rfl, Below.refl _ _⟩
  | true =>
  obtain ⟨hS, hZZ⟩ := hfit rfl
  have HZZ := Lib.hid hZZ
  clear hZZ hfit HZ HN
  by_cases hn2 : 65536 < n
  · go_wp2
    go_ret
    exact ⟨rfl, Below.refl _ _⟩
  have u1 : ¬ 1048576 < e1.size := by omega
  have u2 : ¬ 1048576 < e2.size := by omega
  have u3 : ¬ 1048576 < e3.size := by omega
  go_wp2_with fail
  refine (strBytes a n c zs w HI.out HL.out (by omega) HZZ.out).mono ?_
  rintro e w' ⟨⟨S, rfl, hS2, _⟩, rfl⟩
  by_cases hS3 : 1048576 < e1.size + e2.size + e3.size + S
  · go_wp2
    go_ret
    exact ⟨rfl, Below.refl _ _⟩
  go_wp2_with fail
  generalize hW0 : (((w.alloc (.cells #[.pointer none, .pointer none, .slice none 0 0, .slice none 0 0, .slice none 0 0, .slice none 0 0, .nilIface, .nilIface, .nilIface, .pointer none, .string ⟨#[]⟩, .int .i64 0, .int .i64 0, .int .i64 0, .int .i64 0, .int .i64 1, .int .i64 0, .bool false] 71 (0, 0))).alloc
    (.cells #[.string e1, .string ⟨#[]⟩, .string ⟨#[]⟩, .slice none 0 0, .pointer none, .slice none 0 0, .pointer none, .string ⟨#[]⟩, .int .i64 0, .int .i64 0, .int .i64 0, .int .i64 0, .int .i64 0] 75 (0, 0))).alloc
    (.cells #[.string e2, .slice none 0 0, .pointer none, .slice none 0 0, .pointer none, .string ⟨#[]⟩, .int .i64 0, .int .i64 0, .int .i64 0, .int .i64 0] 60 (0, 0))).alloc
    (.cells #[.string e3, .slice none 0 0, .pointer none, .slice none 0 0, .pointer none, .string ⟨#[]⟩, .int .i64 0, .int .i64 0, .int .i64 0, .int .i64 0] 60 (0, 0)) = W0
  have D0 : FdW w W0 e1 e2 e3 (w.heap.size + 1) (w.heap.size + 1 + 1) (w.heap.size + 1 + 1 + 1) (.pointer none) .nilIface .nilIface .nilIface ∧ W0.heap.size = w.heap.size + 4 := by
    subst hW0
    refine ⟨⟨?_, ?_, ?_, ?_, (((((Below.refl _ w).alloc (Nat.le_refl _) _).alloc (by simp) _).alloc (by simp; omega) _).alloc (by simp; omega) _)⟩, by simp⟩
    · exact (get_old (by first | (simp; done) | (simp; omega))).trans ((get_old (by first | (simp; done) | (simp; omega))).trans ((get_old (by first | (simp; done) | (simp; omega))).trans (get_new (by first | (simp; done) | (simp; omega)))))
    · exact (get_old (by first | (simp; done) | (simp; omega))).trans ((get_old (by first | (simp; done) | (simp; omega))).trans (get_new (by first | (simp; done) | (simp; omega))))
    · exact (get_old (by first | (simp; done) | (simp; omega))).trans (get_new (by first | (simp; done) | (simp; omega)))
    · exact get_new (by first | (simp; done) | (simp; omega))
  clear hW0
  generalize hb3 : w.heap.size + 1 + 1 + 1 = b3 at D0 ⊢
  generalize hb2 : w.heap.size + 1 + 1 = b2 at D0 ⊢
  generalize hb1 : w.heap.size + 1 = b1 at D0 ⊢
  have l1 : w.heap.size < b1 := by omega
  have l2 : w.heap.size < b2 := by omega
  have l3 : w.heap.size < b3 := by omega
  obtain ⟨D0, s0⟩ := D0
  refine (setE1 w.heap.size b1 .nilIface W0 ((cell_of_row _ _ 6 _ _ _ D0.fld).trans rfl) (frozen_of D0.fld 6)).mono ?_
  rintro e W1 ⟨rfl, hW1⟩
  have D1 := D0.setF l1 l2 l3 6 (.iface 72 (.pointer (some ⟨b1, 0, none⟩))) rfl
  have s1 : W1.heap.size = w.heap.size + 4 := by rw [← hW1, ← s0]; simp [World.setCell]
  rw [hW1] at D1
  have HD1 := Lib.hid D1
  clear hW1 D0 D1 s0
  clear W0
  go_wp2_with fail
  have D1 := HD1.out
  refine (setE2 w.heap.size b2 .nilIface W1 ((cell_of_row _ _ 7 _ _ _ D1.fld).trans rfl) (frozen_of D1.fld 7)).mono ?_
  rintro e W2 ⟨rfl, hW2⟩
  have D2 := D1.setF l1 l2 l3 7 (.iface 57 (.pointer (some ⟨b2, 0, none⟩))) rfl
  have s2 : W2.heap.size = w.heap.size + 4 := by rw [← hW2, ← s1]; simp [World.setCell]
  rw [hW2] at D2
  have HD2 := Lib.hid D2
  clear hW2 D1 D2 HD1 s1
  clear W1
  go_wp2_with fail
  have D2 := HD2.out
  refine (setE3 w.heap.size b3 .nilIface W2 ((cell_of_row _ _ 8 _ _ _ D2.fld).trans rfl) (frozen_of D2.fld 8)).mono ?_
  rintro e W3 ⟨rfl, hW3⟩
  have D3 := D2.setF l1 l2 l3 8 (.iface 57 (.pointer (some ⟨b3, 0, none⟩))) rfl
  have s3 : W3.heap.size = w.heap.size + 4 := by rw [← hW3, ← s2]; simp [World.setCell]
  rw [hW3] at D3
  have HD3 := Lib.hid D3
  have S3 := Lib.hid s3
  clear hW3 D2 D3 HD2 s2 s3
  clear W2
  go_wp2_with (refine wpList_make_full _ rfl _ _ 78 rfl W3.heap.size 82 i0 (.agg #[.slice none 0 0, .string ⟨#[]⟩, .slice none 0 0, .slice none 0 0, .nilIface, .pointer none, .string ⟨#[]⟩, .int .i64 0, .int .i64 0, .int .i64 0, .int .i64 0]) 11 Tryf.underlying78 hinf hz0 hz1 .i64 .i64 _ _ n rfl rfl rfl rfl (by rw [hz2]; omega) (by unfold maxLen; omega) (Nat.le_refl _) ?_; intro w4 hown4 hg4)
  have hb4 : Below W3.heap.size W3 w4 := (Below.refl _ _).grown hg4 (Nat.le_refl _) (by simp)
  have hp4 := parMade hown4
  have hgl : W3.heap.size < w4.heap.size := hp4.lt
  have s3 := S3.out
  have hb5 : Below w4.heap.size w4 (w4.alloc (.cells (fnCells .nilIface (some ⟨W3.heap.size, 0, none⟩) n n n0) 80 (0, 0))) := (Below.refl _ _).alloc (Nat.le_refl _) _
  have HLP : LpW w (w4.alloc (.cells (fnCells .nilIface (some ⟨W3.heap.size, 0, none⟩) n n n0) 80 (0, 0))) e1 e2 e3 b1 b2 b3 (.pointer none) (.iface 72 (.pointer (some ⟨b1, 0, none⟩))) (.iface 57 (.pointer (some ⟨b2, 0, none⟩))) (.iface 57 (.pointer (some ⟨b3, 0, none⟩))) W3.heap.size w4.heap.size n .nilIface (fun i => if i < 0 then zs.getD i ByteArray.empty else ⟨#[]⟩) :=
    ⟨(HD3.out.up (fun i _ hi => (hb5.block i (by omega)).trans (hb4.block i hi)) (by have := hb5.size; omega) l1 l2 l3 ((hb4.mono (by omega)).trans (hb5.mono (by omega)))), heap_alloc_new _ _, (hp4.congr (fun i _ => by rw [if_neg (by omega)])).keep (hb5.block _ hgl), by omega, by omega, by omega, hgl, l1, l2, l3⟩
  change Code.wp Tryf.prog _ _ _ (w4.alloc (.cells (fnCells .nilIface (some ⟨W3.heap.size, 0, none⟩) n n n0) 80 (0, 0)))
  generalize w4.alloc (.cells (fnCells .nilIface (some ⟨W3.heap.size, 0, none⟩) n n n0) 80 (0, 0)) = W5 at HLP ⊢
  clear hb4 hb5 hown4 hg4 hp4 HD3 hinf hz0 hz1 hz2
  generalize w4.heap.size = fb at HLP hgl ⊢
  generalize W3.heap.size = g at HLP hgl ⊢
  clear s3 S3
  clear W3 w4
  go_loopw [16] (fun i wr => ∃ q : Nat, q ≤ n ∧ i = .int .i64 q ∧ Hid (LpW w wr e1 e2 e3 b1 b2 b3 (.pointer none) (.iface 72 (.pointer (some ⟨b1, 0, none⟩))) (.iface 57 (.pointer (some ⟨b2, 0, none⟩))) (.iface 57 (.pointer (some ⟨b3, 0, none⟩))) g fb n .nilIface (fun i => if i < q then zs.getD i ByteArray.empty else ⟨#[]⟩))) (fun i _ => n - (intOf i).toNat)
  case atStart => exact ⟨0, Nat.zero_le _, rfl, Lib.hid HLP⟩
  case round =>
    obtain ⟨q, hq, rfl, HS⟩ := hrel
    by_cases hlt : q < n
    · obtain ⟨b, off, rfl, hb, hcc⟩ := HI.out.cell (k := q) (by rw [HL.out]; exact hlt)
      have hs := HS.out
      have hc1 : wr.cell? ⟨b, off + q, none⟩ = some (.string (zs.getD q ByteArray.empty)) := (hs.base.below.cell (p := ⟨b, off + q, none⟩) hb).trans (hcc q (by rw [HL.out]; exact hlt))
      have hc2 : wr.cell? ⟨g, q * 11 + 1, none⟩ = some (.string ⟨#[]⟩) := by
        have := hs.par.cell hlt (j := 1) (by omega)
        rw [if_neg (Nat.lt_irrefl q)] at this
        exact this
      have hf2 : wr.frozen? ⟨g, q * 11 + 1, none⟩ = false := hs.par.frozen _
      have hc3 : wr.cell? ⟨fb, 3, none⟩ = some (.slice (some ⟨g, 0, none⟩) n n) := (cell_of_row _ _ 3 _ _ _ hs.fn).trans rfl
      have i5 : (0 : Int) ≤ (q : Int) := Int.natCast_nonneg _
      have i6 : (q : Int) < (n : Int) := by omega
      clear hs hcc HLP
      obtain ⟨t, ht⟩ : ∃ t, zs.getD q ByteArray.empty = t := ⟨_, rfl⟩
      rw [ht] at hc1
      have HT := Lib.hid ht
      clear ht
      go_wp2_with fail
      go_region
      go_wp2
      go_roundw
      case rel => exact ⟨q + 1, by omega, by go_num, Lib.hid ((HS.out.name hlt t).congr (fun i hi => by
        have ht := HT.out
        by_cases e : i = q
        · rw [e, if_pos rfl, if_pos (by omega), ht]
        · rw [if_neg e]
          by_cases e2 : i < q
          · rw [if_pos e2, if_pos (by omega)]
          · rw [if_neg e2, if_neg (by omega)])).drew⟩
      case measure => simp [intOf]; omega
    · obtain rfl : n = q := by omega
      have HS2 := Lib.hid (HS.out.congr (ms := fun i => zs.getD i ByteArray.empty) (fun i hi => if_pos hi))
      clear HS HLP hlt hq
      go_wp2_with fail
      have hs2 := HS2.out
      refine (setFB fb b2 .nilIface wr ((cell_of_row _ _ 2 _ _ _ hs2.fn).trans rfl) (frozen_of hs2.fn 2)).mono ?_
      rintro e W6 ⟨rfl, hW6⟩
      have h6 := hs2.body (.iface 57 (.pointer (some ⟨b2, 0, none⟩)))
      rw [hW6] at h6
      have HL6 := Lib.hid h6
      clear hW6 hs2 h6 HS2
      clear wr
      go_upto_if 106 with (fail)
      go_cut [] (fun wc => Hid (∃ m, LpW w wc e1 e2 e3 b1 b2 b3 m (.iface 72 (.pointer (some ⟨b1, 0, none⟩))) (.iface 57 (.pointer (some ⟨b2, 0, none⟩))) (.iface 57 (.pointer (some ⟨b3, 0, none⟩))) g fb n (.iface 57 (.pointer (some ⟨b2, 0, none⟩))) (fun i => zs.getD i ByteArray.empty) ∧ MetAt wc m n0 (if bm then some (.var e2 n0 [] none, some (n, fun i => zs.getD i ByteArray.empty)) else none)))
      case first =>
        cases bm with
        | false =>
          go_wp2_with fail
          go_meet
          exact Lib.hid ⟨_, HL6.out, rfl⟩
        | true =>
          have m0 : W6.cell? ⟨w.heap.size, 0, none⟩ = some (.pointer none) := (cell_of_row _ _ 0 _ _ _ HL6.out.base.fld).trans rfl
          have z0 : W6.frozen? ⟨w.heap.size, 0, none⟩ = false := frozen_of HL6.out.base.fld 0
          go_wp2_with fail
          go_meet
          have h7 := HL6.out.meth (.pointer (some ⟨fb, 0, none⟩))
          exact Lib.hid ⟨_, h7, fb, rfl, _, _, _, _, h7.fn, ⟨b2, rfl, h7.base.var2, n0_ok _⟩, ⟨g, rfl, rfl, h7.par, by omega⟩, n0_ok _⟩
      case rest =>
      obtain ⟨m, hlp, hmt⟩ := hcut.out
      have HLP := Lib.hid hlp
      have HMT := Lib.hid hmt
      clear hlp hmt hcut HL6
      clear W6
      go_wp2_with fail
      have hlp := HLP.out
      refine (zzCloneField w.heap.size m (.pointer none) _ _ _ rest n0 _ (.lit e1 ⟨#[]⟩ ⟨#[]⟩ 0 n0 [] none) (.var e2 n0 [] none) (.var e3 n0 [] none) wc hlp.base.fld HMT.out ⟨b1, rfl, hlp.base.lit, n0_ok _⟩ ⟨b2, rfl, hlp.base.var2, n0_ok _⟩ ⟨b3, rfl, hlp.base.var3, n0_ok _⟩).mono ?_
      rintro e W7 ⟨rfl, m', u1', u2', u3', r7, mn, ⟨lb, n1, k1, rfl, r1, _⟩, ⟨ub, n2, k2, rfl, r2, _⟩, ⟨tb, n3, k3, rfl, r3, _⟩, hk⟩
      have hz7 := hk.size
      have hlf : fb < wc.heap.size := (Array.getElem?_eq_some_iff.1 hlp.fn).1
      have hwb : w.heap.size < fb := by have := hlp.o4; have := hlp.o1; omega
      have b7 : Below w.heap.size w W7 := hlp.base.below.trans (hk.below (fun _ e => by omega) (by omega))
      have f0 : W7.cell? ⟨w.heap.size, 0, none⟩ = some m' := (cell_of_row _ _ 0 _ _ _ r7).trans rfl
      have f6 : W7.cell? ⟨w.heap.size, 6, none⟩ = some (.iface 72 (.pointer (some ⟨lb, 0, none⟩))) := (cell_of_row _ _ 6 _ _ _ r7).trans rfl
      have f7 : W7.cell? ⟨w.heap.size, 7, none⟩ = some (.iface 57 (.pointer (some ⟨ub, 0, none⟩))) := (cell_of_row _ _ 7 _ _ _ r7).trans rfl
      have f8 : W7.cell? ⟨w.heap.size, 8, none⟩ = some (.iface 57 (.pointer (some ⟨tb, 0, none⟩))) := (cell_of_row _ _ 8 _ _ _ r7).trans rfl
      have y1 : W7.cell? ⟨lb, 0, none⟩ = some (.string e1) := (cell_of_row _ _ 0 _ _ _ r1).trans rfl
      have z1 : W7.frozen? ⟨lb, 0, none⟩ = false := frozen_of r1 0
      have nlu : lb ≠ ub := fun e => by rw [e, r2] at r1; cases r1
      have nlt : lb ≠ tb := fun e => by rw [e, r3] at r1; cases r1
      have q2 : (W7.setCell ⟨lb, 0, none⟩ (.string (e1 ++ ⟨#[33]⟩))).heap[ub]? = some (.cells (varCells e2 n2) 60 (0, 0)) := (Below.heap_setCell _ _ _ _ (show ub ≠ lb from fun e => nlu e.symm)).trans r2
      have y2 : (W7.setCell ⟨lb, 0, none⟩ (.string (e1 ++ ⟨#[33]⟩))).cell? ⟨ub, 0, none⟩ = some (.string e2) := (cell_of_row _ _ 0 _ _ _ q2).trans rfl
      have z2 : (W7.setCell ⟨lb, 0, none⟩ (.string (e1 ++ ⟨#[33]⟩))).frozen? ⟨ub, 0, none⟩ = false := frozen_of q2 0
      obtain ⟨s3, q3⟩ : VarSome ((W7.setCell ⟨lb, 0, none⟩ (.string (e1 ++ ⟨#[33]⟩))).setCell ⟨ub, 0, none⟩ (.string (e2 ++ ⟨#[33]⟩))) tb n3 := VarSome.set (VarSome.set ⟨e3, r3⟩ lb _) ub _
      have y3 : ((W7.setCell ⟨lb, 0, none⟩ (.string (e1 ++ ⟨#[33]⟩))).setCell ⟨ub, 0, none⟩ (.string (e2 ++ ⟨#[33]⟩))).cell? ⟨tb, 0, none⟩ = some (.string s3) := (cell_of_row _ _ 0 _ _ _ q3).trans rfl
      have z3 : ((W7.setCell ⟨lb, 0, none⟩ (.string (e1 ++ ⟨#[33]⟩))).setCell ⟨ub, 0, none⟩ (.string (e2 ++ ⟨#[33]⟩))).frozen? ⟨tb, 0, none⟩ = false := frozen_of q3 0
      have K8 : ∀ (i : Nat) (C : Array Value) (T : TypeId), W7.heap[i]? = some (.cells C T (0, 0)) → T ≠ 60 → T ≠ 75 → (((W7.setCell ⟨lb, 0, none⟩ (.string (e1 ++ ⟨#[33]⟩))).setCell ⟨ub, 0, none⟩ (.string (e2 ++ ⟨#[33]⟩))).setCell ⟨tb, 0, none⟩ (.string (e3 ++ ⟨#[33]⟩))).heap[i]? = W7.heap[i]? := fun i C T hi t1 t2 => by
        rw [Below.heap_setCell _ _ _ _ (show i ≠ tb from fun e => by rw [e, r3] at hi; cases hi; exact t1 rfl), Below.heap_setCell _ _ _ _ (show i ≠ ub from fun e => by rw [e, r2] at hi; cases hi; exact t1 rfl), Below.heap_setCell _ _ _ _ (show i ≠ lb from fun e => by rw [e, r1] at hi; cases hi; exact t2 rfl)]
      have KO : ∀ i, i < wc.heap.size → (((W7.setCell ⟨lb, 0, none⟩ (.string (e1 ++ ⟨#[33]⟩))).setCell ⟨ub, 0, none⟩ (.string (e2 ++ ⟨#[33]⟩))).setCell ⟨tb, 0, none⟩ (.string (e3 ++ ⟨#[33]⟩))).heap[i]? = W7.heap[i]? := fun i hi => by
        rw [Below.heap_setCell _ _ _ _ (show i ≠ tb by omega), Below.heap_setCell _ _ _ _ (show i ≠ ub by omega), Below.heap_setCell _ _ _ _ (show i ≠ lb by omega)]
      have VS : ∀ b k, VarSome W7 b k → VarSome (((W7.setCell ⟨lb, 0, none⟩ (.string (e1 ++ ⟨#[33]⟩))).setCell ⟨ub, 0, none⟩ (.string (e2 ++ ⟨#[33]⟩))).setCell ⟨tb, 0, none⟩ (.string (e3 ++ ⟨#[33]⟩))) b k := fun b k h => ((h.set _ _).set _ _).set _ _
      have b8 : Below w.heap.size w (((W7.setCell ⟨lb, 0, none⟩ (.string (e1 ++ ⟨#[33]⟩))).setCell ⟨ub, 0, none⟩ (.string (e2 ++ ⟨#[33]⟩))).setCell ⟨tb, 0, none⟩ (.string (e3 ++ ⟨#[33]⟩))) := ((b7.setCell (by show w.heap.size ≤ lb; omega) _).setCell (by show w.heap.size ≤ ub; omega) _).setCell (by show w.heap.size ≤ tb; omega) _
      have HKK := Lib.hid (show ∀ i, w.heap.size < i → i < wc.heap.size → W7.heap[i]? = wc.heap[i]? from fun i h1 h2 => hk.block i h2 (by omega))
      have HR7 := Lib.hid r7
      have HK8 := Lib.hid K8
      have HKO := Lib.hid KO
      have HVS := Lib.hid VS
      have HB8 := Lib.hid b8
      have HMN := Lib.hid mn
      have HLP2 := Lib.hid hlp
      clear r7 K8 KO VS b8 mn hlp hk r1 r2 r3 q2 q3 b7 HLP HMT
      go_wp2_with fail
      refine (getE1 w.heap.size lb W7 f6).mono ?_
      rintro e w8 ⟨rfl, rfl⟩
      go_wp2_with fail
      refine (getE2 w.heap.size ub _ f7).mono ?_
      rintro e w8 ⟨rfl, rfl⟩
      go_wp2_with fail
      refine (getE3 w.heap.size tb _ f8).mono ?_
      rintro e w8 ⟨rfl, rfl⟩
      go_upto_if 144 with (fail)
      generalize (((W7.setCell ⟨lb, 0, none⟩ (.string (e1 ++ ⟨#[33]⟩))).setCell ⟨ub, 0, none⟩ (.string (e2 ++ ⟨#[33]⟩))).setCell ⟨tb, 0, none⟩ (.string (e3 ++ ⟨#[33]⟩))) = W8 at HK8 HKO HVS HB8 ⊢
      have HR8 := Lib.hid ((HKO.out _ (by omega)).trans HR7.out)
      have H8 := Lib.hid (HLP2.out.after (W := W8) (m' := m') HR8.out (fun i h1 h2 => (HKO.out i h2).trans (HKK.out i h1 h2)) HB8.out)
      clear f0 f6 f7 f8 y1 z1 y2 z2 y3 z3
      go_cut [] (fun wd => Hid (∃ m v1 v2 v3, LpW w wd e1 e2 e3 b1 b2 b3 m v1 v2 v3 g fb n (.iface 57 (.pointer (some ⟨b2, 0, none⟩))) (fun i => zs.getD i ByteArray.empty)))
      case first =>
        cases bm with
        | false =>
          go_wp2_with fail
          go_meet
          exact Lib.hid ⟨_, _, _, _, H8.out⟩
        | true =>
          have mn : MetNew wc.heap.size W7 m' n0 (some (.var e2 n0 [] none, some (n, fun i => zs.getD i ByteArray.empty))) := HMN.out
          obtain ⟨rb, rfl, v', pa, pn, pc, nf, k4, r4, ⟨mb, nm, k5, rfl, r5, _⟩, ⟨g', rfl, rfl, k6, r6⟩, _⟩ := mn
          have r48 := (HK8.out rb _ _ r4 (by decide) (by decide)).trans r4
          have r68 : ParRow W8 g' pn (fun i => zs.getD i ByteArray.empty) := by
            obtain ⟨C, hC, _⟩ := r6
            exact ParRow.keep ⟨C, hC, by assumption⟩ (HK8.out g' _ _ hC (by decide) (by decide))
          have vs8 := HVS.out mb nm ⟨_, r5⟩
          have ngr : rb ≠ g' := fun e => by
            obtain ⟨C, hC, _⟩ := r6
            rw [e, hC] at r4
            cases r4
          have ngm : mb ≠ g' := fun e => by
            obtain ⟨C, hC, _⟩ := r6
            rw [e, hC] at r5
            cases r5
          have nrm : rb ≠ mb := fun e => by rw [e, r5] at r4; cases r4
          have c0 : W8.cell? ⟨w.heap.size, 0, none⟩ = some (.pointer (some ⟨rb, 0, none⟩)) := (cell_of_row _ _ 0 _ _ _ HR8.out).trans rfl
          have c3 : W8.cell? ⟨rb, 3, none⟩ = some (.slice (some ⟨g', 0, none⟩) pn pc) := (cell_of_row _ _ 3 _ _ _ r48).trans rfl
          have HL2 : Hid (L2St w wc W8 rb g' pn mb nm zs 0 W8) :=
            Lib.hid ⟨fun _ _ => rfl, rfl, r68.congr (fun i _ => by rw [if_neg (by omega)]), vs8, HB8.out⟩
          have R48 := Lib.hid r48
          clear r4 r48 r68 r5 r6 vs8 HMN
          go_wp2
          clear c0 c3
          go_loopw [21] (fun i wr => ∃ q : Nat, q ≤ pn ∧ i = .int .i64 q ∧ Hid (L2St w wc W8 rb g' pn mb nm zs q wr)) (fun i _ => pn - (intOf i).toNat)
          case atStart => exact ⟨0, Nat.zero_le _, rfl, HL2⟩
          case round =>
            obtain ⟨q, hq, rfl, HS⟩ := hrel
            have hrr : wr.heap[rb]? = some (.cells (fnCells (.iface 57 (.pointer (some ⟨mb, 0, none⟩))) (some ⟨g', 0, none⟩) pn pc nf) 80 (0, 0)) := HS.out.2.1.trans R48.out
            have c3 : wr.cell? ⟨rb, 3, none⟩ = some (.slice (some ⟨g', 0, none⟩) pn pc) := (cell_of_row _ _ 3 _ _ _ hrr).trans rfl
            have c2 : wr.cell? ⟨rb, 2, none⟩ = some (.iface 57 (.pointer (some ⟨mb, 0, none⟩))) := (cell_of_row _ _ 2 _ _ _ hrr).trans rfl
            clear hrr
            by_cases hlt : q < pn
            · obtain ⟨b, off, rfl, hb, hcc⟩ := HI.out.cell (k := q) (by rw [HL.out]; exact hlt)
              have hc1 : wr.cell? ⟨b, off + q, none⟩ = some (.string (zs.getD q ByteArray.empty)) := (HS.out.2.2.2.2.cell (p := ⟨b, off + q, none⟩) hb).trans (hcc q (by rw [HL.out]; exact hlt))
              have hc2 : wr.cell? ⟨g', q * 11 + 1, none⟩ = some (.string (zs.getD q ByteArray.empty)) := by
                have := HS.out.2.2.1.cell hlt (j := 1) (by omega)
                rw [if_neg (Nat.lt_irrefl q)] at this
                exact this
              have hf2 : wr.frozen? ⟨g', q * 11 + 1, none⟩ = false := HS.out.2.2.1.frozen _
              have i5 : (0 : Int) ≤ (q : Int) := Int.natCast_nonneg _
              have i6 : (q : Int) < (pn : Int) := by omega
              have hs1 := HZZ.out q hlt
              obtain ⟨t, ht⟩ : ∃ t, zs.getD q ByteArray.empty = t := ⟨_, rfl⟩
              rw [ht] at hc1 hc2 hs1
              have HT := Lib.hid ht
              clear ht hcc c2
              go_wp2_with fail
              go_region
              go_wp2
              go_roundw
              case rel =>
                obtain ⟨a1, a2, a3, a4, a5⟩ := HS.out
                refine ⟨q + 1, by omega, by go_num, Lib.hid ⟨fun i hi => (Below.heap_setCell wr _ _ i (by show i ≠ g'; omega)).trans (a1 i hi), (Below.heap_setCell wr _ _ rb ngr).trans a2, ParRow.keep (w := wr.setCell ⟨g', q * 11 + 1, none⟩ (.string (t ++ ⟨#[33]⟩))) ((a3.set hlt _).congr (fun i hi => ?_)) rfl, ?_, drew_below (a5.setCell (by show w.heap.size ≤ g'; omega) _)⟩⟩
                · have ht := HT.out
                  by_cases e : i = q
                  · rw [e, if_pos rfl, if_pos (by omega), ht]
                  · rw [if_neg e]
                    by_cases e2 : i < q
                    · rw [if_pos e2, if_pos (by omega)]
                    · rw [if_neg e2, if_neg (by omega)]
                · obtain ⟨s, hs⟩ := a4
                  exact ⟨s, (Below.heap_setCell wr _ _ mb ngm).trans hs⟩
              case measure => simp [intOf]; omega
            · obtain rfl : pn = q := by omega
              go_wp2_with fail
              refine (getFB rb mb wr c2).mono ?_
              rintro e wf ⟨rfl, rfl⟩
              obtain ⟨s4, hs4⟩ := HS.out.2.2.2.1
              have y4 : wr.cell? ⟨mb, 0, none⟩ = some (.string s4) := (cell_of_row _ _ 0 _ _ _ hs4).trans rfl
              have z4 : wr.frozen? ⟨mb, 0, none⟩ = false := frozen_of hs4 0
              clear hs4
              go_wp2_with fail
              go_meet
              have KW : ∀ i, i < wc.heap.size → (wr.setCell ⟨mb, 0, none⟩ (.string (e2 ++ ⟨#[63]⟩))).heap[i]? = W8.heap[i]? := fun i hi => (Below.heap_setCell wr _ _ i (by show i ≠ mb; omega)).trans (HS.out.1 i hi)
              exact Lib.hid ⟨_, _, _, _, HLP2.out.after (m' := .pointer (some ⟨rb, 0, none⟩)) ((KW _ (by omega)).trans HR8.out) (fun i h1 h2 => (KW i h2).trans ((HKO.out i h2).trans (HKK.out i h1 h2))) (HS.out.2.2.2.2.setCell (by show w.heap.size ≤ mb; omega) _)⟩
      case rest =>
      obtain ⟨mm, w1', w2', w3', hd⟩ := hcut.out
      have HD := Lib.hid hd
      have s1 : wc.cell? ⟨b1, 0, none⟩ = some (.string e1) := (cell_of_row _ _ 0 _ _ _ hd.base.lit).trans rfl
      have s2 : wc.cell? ⟨b2, 0, none⟩ = some (.string e2) := (cell_of_row _ _ 0 _ _ _ hd.base.var2).trans rfl
      have s3 : wc.cell? ⟨b3, 0, none⟩ = some (.string e3) := (cell_of_row _ _ 0 _ _ _ hd.base.var3).trans rfl
      have s4 : wc.cell? ⟨fb, 2, none⟩ = some (.iface 57 (.pointer (some ⟨b2, 0, none⟩))) := (cell_of_row _ _ 2 _ _ _ hd.fn).trans rfl
      have s5 : wc.cell? ⟨fb, 3, none⟩ = some (.slice (some ⟨g, 0, none⟩) n n) := (cell_of_row _ _ 3 _ _ _ hd.fn).trans rfl
      clear hd hcut H8 HR8 HB8 HVS HKO HK8 HR7 HKK HMN HLP2
      go_wp2_with fail
      refine (getFB fb b2 wc s4).mono ?_
      rintro e wf ⟨rfl, rfl⟩
      have qn : (binOp .neq 57 (.pointer (some ⟨b2, 0, none⟩)) (.pointer (some ⟨b2, 0, none⟩))).run Tryf.prog wc = .ok (.bool false) wc := neqVar _ _
      go_wp2_with fail
      clear s1 s2 s3 s4 s5 qn
      go_loopw [23] (fun i wr => ∃ q : Nat, q ≤ n ∧ i = .int .i64 q ∧ Hid (LpW w wr e1 e2 e3 b1 b2 b3 mm w1' w2' w3' g fb n (.iface 57 (.pointer (some ⟨b2, 0, none⟩))) (fun i => zs.getD i ByteArray.empty))) (fun i _ => n - (intOf i).toNat)
      case atStart => exact ⟨0, Nat.zero_le _, rfl, HD⟩
      case round =>
        obtain ⟨q, hq, rfl, HS⟩ := hrel
        have s5 : wr.cell? ⟨fb, 3, none⟩ = some (.slice (some ⟨g, 0, none⟩) n n) := (cell_of_row _ _ 3 _ _ _ HS.out.fn).trans rfl
        by_cases hlt : q < n
        · obtain ⟨b, off, rfl, hb, hcc⟩ := HI.out.cell (k := q) (by rw [HL.out]; exact hlt)
          have hc1 : wr.cell? ⟨b, off + q, none⟩ = some (.string (zs.getD q ByteArray.empty)) := (HS.out.base.below.cell (p := ⟨b, off + q, none⟩) hb).trans (hcc q (by rw [HL.out]; exact hlt))
          have hc2 : wr.cell? ⟨g, q * 11 + 1, none⟩ = some (.string (zs.getD q ByteArray.empty)) := HS.out.par.cell hlt (j := 1) (by omega)
          have i5 : (0 : Int) ≤ (q : Int) := Int.natCast_nonneg _
          have i6 : (q : Int) < (n : Int) := by omega
          clear hcc
          generalize zs.getD q ByteArray.empty = t at hc1 hc2
          go_wp2_with fail
          go_quiet (fail)
          go_wp2
          go_roundw
          case rel => exact ⟨q + 1, by omega, by go_num, Lib.hid (HS.out.drewN _)⟩
          case measure => simp [intOf]; omega
        · obtain rfl : n = q := by omega
          go_wp2
          go_ret
          exact ⟨rfl, HS.out.base.below⟩

end Go.Proofs.YtegabjiaekfmbaaFmt.fnCloneFieldDetached
