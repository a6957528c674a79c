/-
  n008_32: two lists that grow side by side, the kinds and the texts of the tokens.
-/
import Derived.Test.YthohpccmleodpaaFmtLxS
import Derived.Laws.AppendOwn
import Derived.Lib.OwnKind
namespace Go.Proofs.YthohpccmleodpaaFmt
open Go Go.RowKit Go.Shelf
namespace Lx

theorem add0 (g i : Nat) : (⟨g, 0, none⟩ : Addr).add i = ⟨g, i, none⟩ := by by_cases h : i = 0 <;> simp [Addr.add, h]
/-- The kinds ks and the texts ds, each in memory of its own from B on. -/
structure KD (B : Nat) (W0 w : World) (kv dv : Value) (ks : List Int) (ds : List ByteArray) : Prop where
  below : Below B W0 w
  size : B ≤ w.heap.size
  kin : w.ownsRow B 3 1 kv ks.length (ks.map (Value.int .i64))
  dat : w.ownsRow B 9 1 dv ds.length (ds.map Value.string)
theorem KD.nil (w : World) : KD w.heap.size w w (.slice none 0 0) (.slice none 0 0) [] [] := ⟨Below.refl _ _, Nat.le_refl _, ⟨rfl, .inl ⟨rfl, rfl⟩⟩, ⟨rfl, .inl ⟨rfl, rfl⟩⟩⟩
theorem KD.up {B : Nat} {W0 w w' : World} {kv dv : Value} {ks : List Int} {ds : List ByteArray} (h : KD B W0 w kv dv ks ds) (hb : Below w.heap.size w w') : KD B W0 w' kv dv ks ds := by
  have kr : ∀ {e : TypeId} {v : Value} {n : Nat} {ys : List Value}, w.ownsRow B e 1 v n ys → w'.ownsRow B e 1 v n ys := fun h => ownsRow_same h fun g hg => by
    obtain ⟨c, fz, hc⟩ := Lib.ownsRow_kind h g hg
    exact hb.block g (Array.getElem?_eq_some_iff.1 hc).1
  exact ⟨h.below.trans (hb.mono h.size), Nat.le_trans h.size hb.size, kr h.kin, kr h.dat⟩
theorem KD.kinds {B : Nat} {W0 w w' : World} {kv dv v : Value} {ks : List Int} {ds : List ByteArray} {k : Int} (h : KD B W0 w kv dv ks ds) (ho : w'.ownsRow B 3 1 v (ks.length + 1) (ks.map (Value.int .i64) ++ [.int .i64 k])) (hg : w.grownBy w' kv.ownBlock) : KD B W0 w' v dv (ks ++ [k]) ds := by
  refine ⟨h.below.grown hg h.size (fun i hi => own_age h.kin i hi), Nat.le_trans h.size hg.size, ?_, ownsRow_same h.dat fun g hgd => ?_⟩
  · rw [List.length_append, List.map_append]
    exact ho
  · obtain ⟨c, fz, hc⟩ := Lib.ownsRow_kind h.dat g hgd
    exact hg.block g (Array.getElem?_eq_some_iff.1 hc).1 (fun e => rows_ne h.kin h.dat (by decide) g hgd e.symm)
theorem KD.datas {B : Nat} {W0 w w' : World} {kv dv v : Value} {ks : List Int} {ds : List ByteArray} {t : ByteArray} (h : KD B W0 w kv dv ks ds) (ho : w'.ownsRow B 9 1 v (ds.length + 1) (ds.map Value.string ++ [.string t])) (hg : w.grownBy w' dv.ownBlock) : KD B W0 w' kv v ks (ds ++ [t]) := by
  refine ⟨h.below.grown hg h.size (fun i hi => own_age h.dat i hi), Nat.le_trans h.size hg.size, ownsRow_same h.kin fun g hgd => ?_, ?_⟩
  · obtain ⟨c, fz, hc⟩ := Lib.ownsRow_kind h.kin g hgd
    exact hg.block g (Array.getElem?_eq_some_iff.1 hc).1 (fun e => rows_ne h.dat h.kin (by decide) g hgd e.symm)
  · rw [List.length_append, List.map_append]
    exact ho
theorem KD.own {B : Nat} {W0 w : World} {kv dv : Value} {ks : List Int} {ds : List ByteArray} (h : KD B W0 w kv dv ks ds) : (∃ p c, kv = .slice p ks.length c) ∧ ∃ p c, dv = .slice p ds.length c := by
  refine ⟨?_, ?_⟩
  · rcases h.kin.2 with ⟨e, e2⟩ | ⟨g, cap, cur, e, _⟩
    · exact ⟨none, 0, by rw [e, e2]⟩
    · exact ⟨_, _, e⟩
  · rcases h.dat.2 with ⟨e, e2⟩ | ⟨g, cap, cur, e, _⟩
    · exact ⟨none, 0, by rw [e, e2]⟩
    · exact ⟨_, _, e⟩
theorem KD.kcell {B : Nat} {W0 w : World} {kv dv : Value} {ks : List Int} {ds : List ByteArray} (h : KD B W0 w kv dv ks ds) {i : Nat} (hi : i < ks.length) : ∃ g c, kv = .slice (some ⟨g, 0, none⟩) ks.length c ∧ w.cell? ⟨g, i, none⟩ = some (.int .i64 (ks[i]'hi)) := by
  obtain ⟨⟨p, c, rfl⟩, _⟩ := h.own
  rcases h.kin.2 with ⟨e, e2⟩ | ⟨g, cap, cur, e, _⟩
  · injection e with e3 e4 e5
    omega
  · injection e with e3 e4 e5
    subst e3
    refine ⟨g, _, rfl, ?_⟩
    have := h.kin.cells (g := g) rfl i (.int .i64 (ks[i]'hi)) (by simp [hi])
    rwa [add0] at this
theorem KD.dcell {B : Nat} {W0 w : World} {kv dv : Value} {ks : List Int} {ds : List ByteArray} (h : KD B W0 w kv dv ks ds) {i : Nat} (hi : i < ds.length) : ∃ g c, dv = .slice (some ⟨g, 0, none⟩) ds.length c ∧ w.cell? ⟨g, i, none⟩ = some (.string (ds[i]'hi)) := by
  obtain ⟨_, p, c, rfl⟩ := h.own
  rcases h.dat.2 with ⟨e, e2⟩ | ⟨g, cap, cur, e, _⟩
  · injection e with e3 e4 e5
    omega
  · injection e with e3 e4 e5
    subst e3
    refine ⟨g, _, rfl, ?_⟩
    have := h.dat.cells (g := g) rfl i (.string (ds[i]'hi)) (by simp [hi])
    rwa [add0] at this

theorem infoIntR : (Tryf.prog.info? 3).map (fun i => (i.zero, i.size, i.bytes)) = some (some (.int .i64 0), 1, 8) := by kernel_rfl
theorem infoStrR : (Tryf.prog.info? 9).map (fun i => (i.zero, i.size, i.bytes)) = some (some (.string ⟨#[]⟩), 1, 16) := by kernel_rfl
theorem one_new (w : World) (v : Value) (t : TypeId) : ∀ (j : Nat) (u : Value), [v][j]? = some u → (w.alloc (.cells #[v] t)).cell? ((⟨w.heap.size, 0, none⟩ : Addr).add j) = some u := by
  intro j u hj
  match j, hj with
  | 0, hj =>
    simp at hj
    subst hj
    exact (cell_of_row _ _ 0 _ _ _ (heap_alloc_new w _)).trans rfl
  | (j + 1), hj => simp at hj
/-- 'kinds = append(kinds, k)'. -/
theorem wp_kinds {ops : Array Oper} {rest : List Oper} {o : Oper} {a : Act} {Q : Exit → Act → World → Prop} (hgd : o.guard = none) (s x : Operand)
    (ho : o.op = .call { callee := .builtin .append, args := #[s, x], argTypes := #[24, 24] })
    (B : Nat) (W0 w0 : World) (kv dv : Value) (ks : List Int) (ds : List ByteArray) (k : Int) (hs : a.eval s = kv) (hx : a.eval x = .slice (some ⟨w0.heap.size, 0, none⟩) 1 1) (h : KD B W0 w0 kv dv ks ds) (hlen : ks.length ≤ 1000000)
    (next : ∀ v' w', KD B W0 w' v' dv (ks ++ [k]) ds → wpList Tryf.prog ops Q rest (a.put o.dst v') w') : wpList Tryf.prog ops Q (o :: rest) a (w0.alloc (.cells #[.int .i64 k] 3)) := by
  obtain ⟨i0, hi, hz0, hz1, hz2⟩ := info_parts infoIntR
  have h1 : KD B W0 (w0.alloc (.cells #[.int .i64 k] 3)) kv dv ks ds := h.up ((Below.refl _ _).alloc (Nat.le_refl _) _)
  refine wpList_append_own _ hgd s x 24 ho B 3 i0 (.int .i64 0) 1 8 Tryf.underlying24 hi hz0 hz1 hz2 rfl (by decide) kv ks.length (ks.map (Value.int .i64)) hs h1.kin ⟨w0.heap.size, 0, none⟩ 1 1 [.int .i64 k] hx rfl (one_new _ _ _) (fun u hu => by simp at hu; subst hu; rfl) (by unfold maxLen; omega) (by omega) h1.size ?_
  intro v' w' hown hg _
  exact next v' w' (h1.kinds hown hg)
/-- 'datas = append(datas, t)'. -/
theorem wp_datas {ops : Array Oper} {rest : List Oper} {o : Oper} {a : Act} {Q : Exit → Act → World → Prop} (hgd : o.guard = none) (s x : Operand)
    (ho : o.op = .call { callee := .builtin .append, args := #[s, x], argTypes := #[25, 25] })
    (B : Nat) (W0 w0 : World) (kv dv : Value) (ks : List Int) (ds : List ByteArray) (t : ByteArray) (hs : a.eval s = dv) (hx : a.eval x = .slice (some ⟨w0.heap.size, 0, none⟩) 1 1) (h : KD B W0 w0 kv dv ks ds) (hlen : ds.length ≤ 1000000)
    (next : ∀ v' w', KD B W0 w' kv v' ks (ds ++ [t]) → wpList Tryf.prog ops Q rest (a.put o.dst v') w') : wpList Tryf.prog ops Q (o :: rest) a (w0.alloc (.cells #[.string t] 9)) := by
  obtain ⟨i0, hi, hz0, hz1, hz2⟩ := info_parts infoStrR
  have h1 : KD B W0 (w0.alloc (.cells #[.string t] 9)) kv dv ks ds := h.up ((Below.refl _ _).alloc (Nat.le_refl _) _)
  refine wpList_append_own _ hgd s x 25 ho B 9 i0 (.string ⟨#[]⟩) 1 16 Tryf.underlying25 hi hz0 hz1 hz2 rfl (by decide) dv ds.length (ds.map Value.string) hs h1.dat ⟨w0.heap.size, 0, none⟩ 1 1 [.string t] hx rfl (one_new _ _ _) (fun u hu => by simp at hu; subst hu; rfl) (by unfold maxLen; omega) (by omega) h1.size ?_
  intro v' w' hown hg _
  exact next v' w' (h1.datas hown hg)

end Lx
end Go.Proofs.YthohpccmleodpaaFmt
