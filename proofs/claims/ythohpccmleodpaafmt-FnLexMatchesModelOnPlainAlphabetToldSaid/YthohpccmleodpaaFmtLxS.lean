/-
  Lex: what the loop holds.
-/
import Derived.Test.YthohpccmleodpaaFmtLxP
import Derived.Test.YthohpccmleodpaaFmtFod
namespace Go.Proofs.YthohpccmleodpaaFmt
open Go Go.RowKit
namespace Lx

def TokList (ts : List Tok) (xs : List Value) : Prop := ∀ i t, ts[i]? = some t → xs[i * 11 + 10]? = some (.int .i64 t.1) ∧ xs[i * 11 + 1]? = some (.string t.2)
theorem TokList.nil : TokList [] [] := fun i t h => by simp at h
theorem TokList.snoc {ts : List Tok} {xs : List Value} (h : TokList ts xs) (hl : xs.length = ts.length * 11) (fod : Value) (data si st : ByteArray) (src : Value) (im : ByteArray) (l1 c1 l2 c2 k : Int) :
    TokList (ts ++ [(k, data)]) (xs ++ tokCells fod data si st src im l1 c1 l2 c2 k) := fun i t hi => by
  by_cases e : i < ts.length
  · rw [List.getElem?_append_left e] at hi
    rw [List.getElem?_append_left (by omega), List.getElem?_append_left (by omega)]
    exact h i t hi
  · have e2 : i = ts.length := by
      have := (List.getElem?_eq_some_iff.1 hi).1
      simp at this
      omega
    subst e2
    rw [List.getElem?_append_right (Nat.le_refl _), Nat.sub_self] at hi
    cases hi
    rw [List.getElem?_append_right (by omega), List.getElem?_append_right (by omega), hl]
    rw [show ts.length * 11 + 10 - ts.length * 11 = 10 by omega, show ts.length * 11 + 1 - ts.length * 11 = 1 by omega]
    exact ⟨rfl, rfl⟩

structure LxSt (s : ByteArray) (w wr : World) (a : Nat) (L : LexSt) (ts : List Tok) (fn : Nat) : Prop where
  here : LexAt wr a L
  inv : Inv s L
  src : ∃ q, L.src = .pointer q
  toks : ∃ xs, wr.ownsRow w.heap.size 47 11 L.toks ts.length xs ∧ TokList ts xs
  fod : ∃ fxs, wr.ownsRow w.heap.size 80 4 L.fod fn fxs
  below : Below w.heap.size w wr
  age : w.heap.size ≤ a
  pre : Pre s L.bn ts
  len : ts.length ≤ L.bn

theorem own_slice {w : World} {B : Nat} {e : TypeId} {sz : Nat} {v : Value} {n : Nat} {xs : List Value} (h : w.ownsRow B e sz v n xs) : ∃ fp fn fc, v = .slice fp fn fc := by
  rcases h.2 with ⟨h, _⟩ | ⟨g, cap, cur, h, _⟩
  · exact ⟨_, _, _, h⟩
  · exact ⟨_, _, _, h⟩
theorem own_ne {w : World} {B a : Nat} {L : LexSt} {e : TypeId} {sz : Nat} {v : Value} {n : Nat} {xs : List Value} (h : w.ownsRow B e sz v n xs) (ha : LexAt w a L) (he : e ≠ 68) : v.ownBlock ≠ some a := fun h1 => by
  obtain ⟨c, fz, hc⟩ := Lib.ownsRow_kind h a h1
  have ha : w.heap[a]? = _ := ha
  rw [ha] at hc
  cases hc
  exact he rfl
theorem own_age {w : World} {B : Nat} {e : TypeId} {sz : Nat} {v : Value} {n : Nat} {xs : List Value} (h : w.ownsRow B e sz v n xs) : ∀ g, v.ownBlock = some g → B ≤ g := fun g hg => by
  rcases h.2 with ⟨h, _⟩ | ⟨g', cap, cur, h, hB, _⟩
  · subst h; cases hg
  · subst h; cases hg; exact hB
theorem LxSt.move {s : ByteArray} {w wr w' : World} {a : Nat} {L L' : LexSt} {ts : List Tok} {fn : Nat} (h : LxSt s w wr a L ts fn) (hg : wr.grownBy w' (some a)) (hl : LexAt w' a L') (hi : Inv s L') (e1 : L'.src = L.src) (e2 : L'.toks = L.toks) (e3 : L'.fod = L.fod) (hp : Pre s L'.bn ts) (hle : ts.length ≤ L'.bn) :
    LxSt s w w' a L' ts fn := by
  obtain ⟨xs, hx, ht⟩ := h.toks
  obtain ⟨fxs, hf⟩ := h.fod
  refine ⟨hl, hi, by rw [e1]; exact h.src, ⟨xs, ?_, ht⟩, ⟨fxs, ?_⟩, h.below.trans (below_of_grown hg h.age h.below.size), h.age, hp, hle⟩
  · rw [e2]
    refine ownsRow_same hx fun g hg' => ?_
    obtain ⟨c, fz, hc⟩ := Lib.ownsRow_kind hx g hg'
    exact hg.block g (Array.getElem?_eq_some_iff.1 hc).1 (fun e => own_ne hx h.here (by decide) (by rw [hg', ← e]))
  · rw [e3]
    refine ownsRow_same hf fun g hg' => ?_
    obtain ⟨c, fz, hc⟩ := Lib.ownsRow_kind hf g hg'
    exact hg.block g (Array.getElem?_eq_some_iff.1 hc).1 (fun e => own_ne hf h.here (by decide) (by rw [hg', ← e]))
theorem kept_row {S : Nat → Prop} {w w' : World} {B : Nat} {e : TypeId} {sz : Nat} {v : Value} {n : Nat} {xs : List Value} (h : w.ownsRow B e sz v n xs) (hk : Kept S w w') (hS : ∀ g, S g → v.ownBlock ≠ some g) : w'.ownsRow B e sz v n xs :=
  ownsRow_same h fun g hg => by
    obtain ⟨c, fz, hc⟩ := Lib.ownsRow_kind h g hg
    exact hk.block g (Array.getElem?_eq_some_iff.1 hc).1 (fun hs => hS g hs hg)
theorem rows_ne {w : World} {B : Nat} {e e2 : TypeId} {sz sz2 : Nat} {v v2 : Value} {n n2 : Nat} {xs xs2 : List Value} (h : w.ownsRow B e sz v n xs) (h2 : w.ownsRow B e2 sz2 v2 n2 xs2) (hne : e ≠ e2) : ∀ g, v2.ownBlock = some g → v.ownBlock ≠ some g := fun g hg hg' => by
  obtain ⟨c, fz, hc⟩ := Lib.ownsRow_kind h g hg'
  obtain ⟨c2, fz2, hc2⟩ := Lib.ownsRow_kind h2 g hg
  rw [hc] at hc2
  cases hc2
  exact hne rfl
theorem LxSt.fodded {s : ByteArray} {w wr w' : World} {a : Nat} {L : LexSt} {ts : List Tok} {v : Value} {fxs : List Value} (h : LxSt s w wr a L ts 0) (hv : LexAt w' a { L with fod := v }) (ho : w'.ownsRow w.heap.size 80 4 v 1 fxs) (hk : Kept (fun i => i = a ∨ L.fod.ownBlock = some i) wr w') :
    LxSt s w w' a { L with fod := v } ts 1 := by
  obtain ⟨xs, hx, ht⟩ := h.toks
  obtain ⟨f0, hf⟩ := h.fod
  refine ⟨hv, ⟨h.inv.inp, h.inv.le, h.inv.ln, h.inv.ls⟩, h.src, ⟨xs, kept_row hx hk (fun g hg => ?_), ht⟩, ⟨fxs, ho⟩, h.below.trans (hk.below (fun g hg => ?_) h.below.size), h.age, h.pre, h.len⟩
  · rcases hg with rfl | hg
    · exact own_ne hx h.here (by decide)
    · exact rows_ne hx hf (by decide) g hg
  · rcases hg with rfl | hg
    · exact h.age
    · exact own_age hf g hg
/-- A token is out. -/
theorem LxSt.emitted {s : ByteArray} {w wr w' : World} {a : Nat} {L L' : LexSt} {ts : List Tok} {fn : Nat} (h : LxSt s w wr a L ts fn) {g cap M : Nat} {xs : List Value} {fd : Value} {data : ByteArray} {sr : Value} {im : ByteArray} {l1 c1 l2 c2 k : Int} (hx : wr.ownsRow w.heap.size 47 11 L.toks ts.length xs) (ht : TokList ts xs)
    (hl : LexAt w' a L') (hi : Inv s L') (e1 : L'.src = L.src) (e2 : L'.toks = .slice (some ⟨g, 0, none⟩) (ts.length + 1) cap) (e3 : L'.fod = .slice (some ⟨M, 0, none⟩) 0 0)
    (ho : w'.ownsRow w.heap.size 47 11 (.slice (some ⟨g, 0, none⟩) (ts.length + 1) cap) (ts.length + 1) (xs ++ tokCells fd data ⟨#[]⟩ ⟨#[]⟩ sr im l1 c1 l2 c2 k))
    (hk : Kept (fun i => i = a ∨ L.toks.ownBlock = some i) wr w') (hM1 : wr.heap.size ≤ M) (hM : w'.heap[M]? = some (.cells #[] 80 (0, 0))) (hp : Pre s L'.bn (ts ++ [(k, data)])) (hle : ts.length + 1 ≤ L'.bn) :
    LxSt s w w' a L' (ts ++ [(k, data)]) 0 := by
  have e4 : (ts ++ [(k, data)]).length = ts.length + 1 := by simp
  refine ⟨hl, hi, by rw [e1]; exact h.src, ⟨_, by rw [e2, e4]; exact ho, ht.snoc hx.1 _ _ _ _ _ _ _ _ _ _ _⟩, ⟨[], ?_⟩, h.below.trans (hk.below (fun i hi => ?_) h.below.size), h.age, hp, by rw [e4]; exact hle⟩
  · rw [e3]
    exact ⟨rfl, .inr ⟨M, 0, #[], rfl, Nat.le_trans h.below.size hM1, hM, Nat.le_refl _, Nat.zero_le _, rfl, rfl⟩⟩
  · rcases hi with rfl | hi
    · exact h.age
    · exact own_age hx i hi
theorem LxSt.start {d im s : ByteArray} {w w' : World} {a M : Nat} (hl : LexAt w' a (initSt d im s (.pointer (some ⟨M, 0, none⟩)))) (hb : Below w.heap.size w w') (ha : w.heap.size ≤ a) : LxSt s w w' a (initSt d im s (.pointer (some ⟨M, 0, none⟩))) [] 0 :=
  ⟨hl, inv_init d im s _, ⟨_, rfl⟩, ⟨[], ⟨rfl, .inl ⟨rfl, rfl⟩⟩, .nil⟩, ⟨[], ⟨rfl, .inl ⟨rfl, rfl⟩⟩⟩, hb, ha, .zero s, Nat.zero_le _⟩
/-- The cursor's rune is a byte of the alphabet, or the end. -/
theorem plain_rune {s : ByteArray} {L : LexSt} (hP : Plain s) (hi : Inv s L) : (L.bn < s.size ∧ L.rune = (byteAt s L.bn : Int) ∧ L.step.bn = L.bn + 1 ∧ okB (byteAt s L.bn) = true) ∨ (L.bn = s.size ∧ L.rune = -1) := by
  by_cases hlt : L.bn < s.size
  · have h1 := hP _ hlt
    have hlow : byteAt s L.bn < 128 := by
      by_cases hh : byteAt s L.bn < 128
      · exact hh
      · simp only [okB, Bool.or_eq_true] at h1
        rcases h1 with ((h1 | h1) | h1) | h1
        · have := isD_cases h1; omega
        · have := idF_cases h1; omega
        · have := isWs_cases' h1; omega
        · have := punct_cases (of_decide_eq_true h1); omega
    have hd := decode_low s L.bn hlt hlow
    have hin : L.bn < L.inp.size := by rw [hi.inp]; exact hlt
    refine .inl ⟨hlt, ?_, ?_, h1⟩
    · rw [LexSt.rune_in hin, hi.inp, hd]
    · have : L.step.bn = L.bn + (Utf8.decode L.inp L.bn).2 := by
        unfold LexSt.step
        rw [if_pos hin]
        split <;> rfl
      rw [this, hi.inp, hd]
  · have := hi.le
    exact .inr ⟨by omega, LexSt.rune_end (by rw [hi.inp]; omega)⟩

end Lx
end Go.Proofs.YthohpccmleodpaaFmt
