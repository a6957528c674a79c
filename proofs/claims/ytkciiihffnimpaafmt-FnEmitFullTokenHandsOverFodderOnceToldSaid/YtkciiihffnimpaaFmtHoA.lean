/-
  FnEmitFullTokenHandsOverFodderOnce: what stands in memory: the tokens with their fodder, the fodder on its way, the three lists; how each step turns it.
-/
import Derived.Test.YtkciiihffnimpaaFmtAddB
namespace Go.Proofs.YtkciiihffnimpaaFmt
open Go Go.RowKit Go.Shelf

/-- A comment's block: one text; it is not the block of the list of texts. -/
def Com1 (w : World) (X : Option Nat) (b : Nat) (t : ByteArray) : Prop := w.heap[b]? = some (.cells #[.string t] 9 (0, 0)) ∧ X ≠ some b
def FElem (w : World) (X : Option Nat) (xs : List Value) (cs : List ByteArray) (j : Nat) : Prop :=
  ∃ b : Nat, (∀ r, r < 4 → xs[j * 4 + r]? = (fodCells (.slice (some ⟨b, 0, none⟩) 1 1) 2 0 0)[r]?) ∧ Com1 w X b (cs.getD j ByteArray.empty)
def PFods (w : World) (B : Nat) (X : Option Nat) (v : Value) (cs : List ByteArray) : Prop := ∃ xs, w.ownsRow B 62 4 v cs.length xs ∧ ∀ j, j < cs.length → FElem w X xs cs j
def TElem (w : World) (B : Nat) (X Y : Option Nat) (xs : List Value) (d : Int × List ByteArray) (i : Nat) : Prop :=
  ∃ (fp : Option Addr) (fc : Nat) (sp : Option Addr) (im : ByteArray) (l1 c1 l2 c2 : Int), (∀ r, r < 11 → xs[i * 11 + r]? = (tokCells (.slice fp d.2.length fc) ⟨#[]⟩ ⟨#[]⟩ ⟨#[]⟩ (.pointer sp) im l1 c1 l2 c2 d.1)[r]?) ∧
    PFods w B X (.slice fp d.2.length fc) d.2 ∧ ∀ g, (Value.slice fp d.2.length fc).ownBlock = some g → Y ≠ some g
def Toks (w : World) (B : Nat) (X Y : Option Nat) (v : Value) (ds : List (Int × List ByteArray)) : Prop := ∃ xs, w.ownsRow B 68 11 v ds.length xs ∧ ∀ i d, ds[i]? = some d → TElem w B X Y xs d i

theorem PFods.keep {w w' : World} {B : Nat} {X X' : Option Nat} {v : Value} {cs : List ByteArray} (h : PFods w B X v cs) (hv : ∀ g, v.ownBlock = some g → w'.heap[g]? = w.heap[g]?)
    (hX : ∀ b c, w.heap[b]? = some (.cells c 9 (0, 0)) → X ≠ some b → w'.heap[b]? = w.heap[b]? ∧ X' ≠ some b) : PFods w' B X' v cs := by
  obtain ⟨xs, ho, hx⟩ := h
  refine ⟨xs, ownsRow_same ho hv, fun j hj => ?_⟩
  obtain ⟨b, h1, h2, h3⟩ := hx j hj
  obtain ⟨e1, e2⟩ := hX b _ h2 h3
  exact ⟨b, h1, e1.trans h2, e2⟩
theorem PFods.kind {w : World} {B : Nat} {X : Option Nat} {v : Value} {cs : List ByteArray} (h : PFods w B X v cs) (g : Nat) (hg : v.ownBlock = some g) : ∃ c fz, w.heap[g]? = some (.cells c 62 fz) := by
  obtain ⟨xs, ho, _⟩ := h
  exact Lib.ownsRow_kind ho g hg
theorem Toks.keep {w w' : World} {B : Nat} {X X' Y Y' : Option Nat} {v : Value} {ds : List (Int × List ByteArray)} (h : Toks w B X Y v ds) (hv : ∀ g, v.ownBlock = some g → w'.heap[g]? = w.heap[g]?)
    (hX : ∀ b c, w.heap[b]? = some (.cells c 9 (0, 0)) → X ≠ some b → w'.heap[b]? = w.heap[b]? ∧ X' ≠ some b)
    (hY : ∀ g c fz, w.heap[g]? = some (.cells c 62 fz) → Y ≠ some g → w'.heap[g]? = w.heap[g]? ∧ Y' ≠ some g) : Toks w' B X' Y' v ds := by
  obtain ⟨xs, ho, hx⟩ := h
  refine ⟨xs, ownsRow_same ho hv, fun i d hd => ?_⟩
  obtain ⟨fp, fc, sp, im, l1, c1, l2, c2, h1, h2, h3⟩ := hx i d hd
  refine ⟨fp, fc, sp, im, l1, c1, l2, c2, h1, h2.keep (fun g hg => ?_) hX, fun g hg => ?_⟩
  · obtain ⟨c, fz, hc⟩ := h2.kind g hg
    exact (hY g c fz hc (h3 g hg)).1
  · obtain ⟨c, fz, hc⟩ := h2.kind g hg
    exact (hY g c fz hc (h3 g hg)).2

/-- The whole: the lexer, its tokens 'ds' (kind, fodder), the fodder 'pend' on its way, the three lists. -/
structure Ho (W : World) (B N : Nat) (L : LexSt) (ds : List (Int × List ByteArray)) (pend want : List ByteArray) (per kin : List Int) (wv pv kv : Value) : Prop where
  lex : LexAt W N L
  toks : Toks W B wv.ownBlock L.fod.ownBlock L.toks ds
  fod : PFods W B wv.ownBlock L.fod pend
  want : W.ownsRow B 9 1 wv want.length (want.map Value.string)
  per : W.ownsRow B 3 1 pv per.length (per.map (Value.int .i64))
  kin : W.ownsRow B 3 1 kv kin.length (kin.map (Value.int .i64))
  ne : ∀ g, pv.ownBlock = some g → kv.ownBlock ≠ some g

theorem Ho.kToks {W : World} {B N : Nat} {L : LexSt} {ds : List (Int × List ByteArray)} {pend want : List ByteArray} {per kin : List Int} {wv pv kv : Value} (h : Ho W B N L ds pend want per kin wv pv kv) (g : Nat) (hg : L.toks.ownBlock = some g) : ∃ c fz, W.heap[g]? = some (.cells c 68 fz) := by
  obtain ⟨xs, ho, _⟩ := h.toks
  exact Lib.ownsRow_kind ho g hg
theorem Ho.kLex {W : World} {B N : Nat} {L : LexSt} {ds : List (Int × List ByteArray)} {pend want : List ByteArray} {per kin : List Int} {wv pv kv : Value} (h : Ho W B N L ds pend want per kin wv pv kv) : ∃ c, W.heap[N]? = some (.cells c 59 (0, 0)) := ⟨_, h.lex⟩

/-- A step that leaves every block but the lexer's. -/
theorem Ho.move {W : World} {B N : Nat} {L : LexSt} {ds : List (Int × List ByteArray)} {pend want : List ByteArray} {per kin : List Int} {wv pv kv : Value} (h : Ho W B N L ds pend want per kin wv pv kv) {W' : World} {L' : LexSt} (hA : LexAt W' N L') (ht : L'.toks = L.toks) (hf : L'.fod = L.fod) (hk : ∀ i, i < W.heap.size → i ≠ N → W'.heap[i]? = W.heap[i]?) : Ho W' B N L' ds pend want per kin wv pv kv := by
  obtain ⟨cN, hN⟩ := h.kLex
  have hkk : ∀ (i : Nat) (c : Array Value) (t : TypeId) (fz : Nat × Nat), W.heap[i]? = some (.cells c t fz) → t ≠ 59 → W'.heap[i]? = W.heap[i]? := fun i c t fz hi ht => hk i (Array.getElem?_eq_some_iff.1 hi).1 (fun e => by
    subst e
    rw [hN] at hi
    cases hi
    exact ht rfl)
  have hX : ∀ b c, W.heap[b]? = some (.cells c 9 (0, 0)) → wv.ownBlock ≠ some b → W'.heap[b]? = W.heap[b]? ∧ wv.ownBlock ≠ some b := fun b c hb hne => ⟨hkk b c _ _ hb (by decide), hne⟩
  refine ⟨hA, ?_, ?_, ownsRow_same h.want fun g hg => ?_, ownsRow_same h.per fun g hg => ?_, ownsRow_same h.kin fun g hg => ?_, h.ne⟩
  · rw [ht, hf]
    refine h.toks.keep (fun g hg => ?_) hX (fun g c fz hg hne => ⟨hkk g c _ _ hg (by decide), hne⟩)
    obtain ⟨c, fz, hc⟩ := h.kToks g hg
    exact hkk g c _ _ hc (by decide)
  · rw [hf]
    refine h.fod.keep (fun g hg => ?_) hX
    obtain ⟨c, fz, hc⟩ := h.fod.kind g hg
    exact hkk g c _ _ hc (by decide)
  · obtain ⟨c, fz, hc⟩ := Lib.ownsRow_kind h.want g hg
    exact hkk g c _ _ hc (by decide)
  · obtain ⟨c, fz, hc⟩ := Lib.ownsRow_kind h.per g hg
    exact hkk g c _ _ hc (by decide)
  · obtain ⟨c, fz, hc⟩ := Lib.ownsRow_kind h.kin g hg
    exact hkk g c _ _ hc (by decide)
theorem Ho.below {W : World} {B N : Nat} {L : LexSt} {ds : List (Int × List ByteArray)} {pend want : List ByteArray} {per kin : List Int} {wv pv kv : Value} (h : Ho W B N L ds pend want per kin wv pv kv) {W' : World} (hb : Below W.heap.size W W') : Ho W' B N L ds pend want per kin wv pv kv :=
  h.move ((hb.block N h.lex.lt).trans h.lex) rfl rfl (fun i hi _ => hb.block i hi)

/-- One element of fodder more. -/
theorem Ho.add {W : World} {B N : Nat} {L : LexSt} {ds : List (Int × List ByteArray)} {pend want : List ByteArray} {per kin : List Int} {wv pv kv : Value} (h : Ho W B N L ds pend want per kin wv pv kv) {W1 W2 : World} {v : Value} {xs : List Value} {b : Nat} {t : ByteArray} (hb1 : Below W.heap.size W W1) (hb : W.heap.size ≤ b) (hcb : W1.heap[b]? = some (.cells #[.string t] 9 (0, 0)))
    (ho : W.ownsRow B 62 4 L.fod pend.length xs) (hx : ∀ j, j < pend.length → FElem W wv.ownBlock xs pend j) (hA : LexAt W2 N { L with fod := v })
    (hown : W2.ownsRow B 62 4 v (pend.length + 1) (xs ++ fodCells (.slice (some ⟨b, 0, none⟩) 1 1) 2 0 0)) (hk : Kept (fun i => i = N ∨ L.fod.ownBlock = some i) W1 W2)
    (hv : L.fod.ownBlock = v.ownBlock ∨ ∀ g, v.ownBlock = some g → W1.heap.size ≤ g) : Ho W2 B N { L with fod := v } ds (pend ++ [t]) want per kin wv pv kv := by
  obtain ⟨cN, hN⟩ := h.kLex
  have hsz := hb1.size
  have hkk : ∀ (i : Nat) (c : Array Value) (tt : TypeId) (fz : Nat × Nat), W.heap[i]? = some (.cells c tt fz) → tt ≠ 59 → L.fod.ownBlock ≠ some i → W2.heap[i]? = W.heap[i]? := fun i c tt fz hi htt hne => by
    have hlt := (Array.getElem?_eq_some_iff.1 hi).1
    refine (hk.block i (by omega) (fun e => ?_)).trans (hb1.block i hlt)
    rcases e with e | e
    · subst e
      rw [hN] at hi
      cases hi
      exact htt rfl
    · exact hne e
  have hnF : ∀ (i : Nat) (c : Array Value) (tt : TypeId) (fz : Nat × Nat), W.heap[i]? = some (.cells c tt fz) → tt ≠ 62 → L.fod.ownBlock ≠ some i := fun i c tt fz hi htt e => by
    obtain ⟨cc, fz2, hc⟩ := h.fod.kind i e
    rw [hi] at hc
    cases hc
    exact htt rfl
  have hX : ∀ b c, W.heap[b]? = some (.cells c 9 (0, 0)) → wv.ownBlock ≠ some b → W2.heap[b]? = W.heap[b]? ∧ wv.ownBlock ≠ some b := fun b c hb hne => ⟨hkk b c _ _ hb (by decide) (hnF b c _ _ hb (by decide)), hne⟩
  refine ⟨hA, ?_, ⟨xs ++ fodCells (.slice (some ⟨b, 0, none⟩) 1 1) 2 0 0, ?_, fun j hj => ?_⟩, ownsRow_same h.want fun g hg => ?_, ownsRow_same h.per fun g hg => ?_, ownsRow_same h.kin fun g hg => ?_, h.ne⟩
  · refine h.toks.keep (fun g hg => ?_) hX (fun g c fz hg hne => ⟨hkk g c _ _ hg (by decide) hne, ?_⟩)
    · obtain ⟨c, fz, hc⟩ := h.kToks g hg
      exact hkk g c _ _ hc (by decide) (hnF g c _ _ hc (by decide))
    · intro e
      have hlt := (Array.getElem?_eq_some_iff.1 hg).1
      rcases hv with hv | hv
      · exact hne (hv.trans e)
      · have := hv g e
        omega
  · rw [List.length_append]
    exact hown
  · by_cases hjq : j < pend.length
    · obtain ⟨b2, h1, h2, h3⟩ := hx j hjq
      refine ⟨b2, fun r hr => ?_, ?_, h3⟩
      · rw [List.getElem?_append_left (by have := ho.1; omega)]
        exact h1 r hr
      · rw [List.getD_eq_getElem?_getD, List.getElem?_append_left hjq, ← List.getD_eq_getElem?_getD]
        exact (hX b2 _ h2 h3).1.trans h2
    · rw [List.length_append, List.length_singleton] at hj
      obtain rfl : j = pend.length := by omega
      refine ⟨b, fun r hr => ?_, ?_, fun e => ?_⟩
      · rw [List.getElem?_append_right (by have := ho.1; omega), ho.1, Nat.add_sub_cancel_left]
      · have hlt := (Array.getElem?_eq_some_iff.1 hcb).1
        rw [hk.block b hlt (fun e => ?_), hcb]
        · simp
        · rcases e with e | e
          · have := h.lex.lt
            omega
          · obtain ⟨cc, fz, hc⟩ := h.fod.kind b e
            have := (Array.getElem?_eq_some_iff.1 hc).1
            omega
      · obtain ⟨cc, fz, hc⟩ := Lib.ownsRow_kind h.want b e
        have := (Array.getElem?_eq_some_iff.1 hc).1
        omega
  · obtain ⟨c, fz, hc⟩ := Lib.ownsRow_kind h.want g hg
    exact hkk g c _ _ hc (by decide) (hnF g c _ _ hc (by decide))
  · obtain ⟨c, fz, hc⟩ := Lib.ownsRow_kind h.per g hg
    exact hkk g c _ _ hc (by decide) (hnF g c _ _ hc (by decide))
  · obtain ⟨c, fz, hc⟩ := Lib.ownsRow_kind h.kin g hg
    exact hkk g c _ _ hc (by decide) (hnF g c _ _ hc (by decide))

/-- One text more. -/
theorem Ho.wants {W : World} {B N : Nat} {L : LexSt} {ds : List (Int × List ByteArray)} {pend want : List ByteArray} {per kin : List Int} {wv pv kv : Value} (h : Ho W B N L ds pend want per kin wv pv kv) {W' : World} {v : Value} {t : ByteArray} (hown : W'.ownsRow B 9 1 v (want.length + 1) (want.map Value.string ++ [.string t])) (hg : W.grownBy W' wv.ownBlock)
    (hv : v.ownBlock = wv.ownBlock ∨ v.ownBlock = some W.heap.size) : Ho W' B N L ds pend (want ++ [t]) per kin v pv kv := by
  have hkk : ∀ (i : Nat) (c : Array Value) (tt : TypeId) (fz : Nat × Nat), W.heap[i]? = some (.cells c tt fz) → wv.ownBlock ≠ some i → W'.heap[i]? = W.heap[i]? := fun i c tt fz hi hne => hg.block i (Array.getElem?_eq_some_iff.1 hi).1 (fun e => hne e.symm)
  have hnW : ∀ (i : Nat) (c : Array Value) (tt : TypeId) (fz : Nat × Nat), W.heap[i]? = some (.cells c tt fz) → tt ≠ 9 → wv.ownBlock ≠ some i := fun i c tt fz hi htt e => by
    obtain ⟨cc, fz2, hc⟩ := Lib.ownsRow_kind h.want i e
    rw [hi] at hc
    cases hc
    exact htt rfl
  have hX : ∀ b c, W.heap[b]? = some (.cells c 9 (0, 0)) → wv.ownBlock ≠ some b → W'.heap[b]? = W.heap[b]? ∧ v.ownBlock ≠ some b := fun b c hb hne => ⟨hkk b c _ _ hb hne, fun e => by
    rcases hv with hv | hv
    · exact hne (hv.symm.trans e)
    · have := (Array.getElem?_eq_some_iff.1 hb).1
      rw [hv] at e
      cases e
      omega⟩
  obtain ⟨cN, hN⟩ := h.kLex
  refine ⟨(hkk N _ _ _ hN (hnW N _ _ _ hN (by decide))).trans h.lex, ?_, ?_, ?_, ownsRow_same h.per fun g hg => ?_, ownsRow_same h.kin fun g hg => ?_, h.ne⟩
  · refine h.toks.keep (fun g hg => ?_) hX (fun g c fz hg hne => ⟨hkk g c _ _ hg (hnW g c _ _ hg (by decide)), hne⟩)
    obtain ⟨c, fz, hc⟩ := h.kToks g hg
    exact hkk g c _ _ hc (hnW g c _ _ hc (by decide))
  · refine h.fod.keep (fun g hg => ?_) hX
    obtain ⟨c, fz, hc⟩ := h.fod.kind g hg
    exact hkk g c _ _ hc (hnW g c _ _ hc (by decide))
  · rw [List.length_append, List.map_append]
    exact hown
  · obtain ⟨c, fz, hc⟩ := Lib.ownsRow_kind h.per g hg
    exact hkk g c _ _ hc (hnW g c _ _ hc (by decide))
  · obtain ⟨c, fz, hc⟩ := Lib.ownsRow_kind h.kin g hg
    exact hkk g c _ _ hc (hnW g c _ _ hc (by decide))

/-- What an append to a list of numbers leaves of the rest. -/
theorem Ho.ints {W : World} {B N : Nat} {L : LexSt} {ds : List (Int × List ByteArray)} {pend want : List ByteArray} {per kin : List Int} {wv pv kv : Value} (h : Ho W B N L ds pend want per kin wv pv kv) {W' : World} {u : Value} (hu : ∀ g, u.ownBlock = some g → ∃ c fz, W.heap[g]? = some (.cells c 3 fz)) (hg : W.grownBy W' u.ownBlock) :
    LexAt W' N L ∧ Toks W' B wv.ownBlock L.fod.ownBlock L.toks ds ∧ PFods W' B wv.ownBlock L.fod pend ∧ W'.ownsRow B 9 1 wv want.length (want.map Value.string) := by
  have hkk : ∀ (i : Nat) (c : Array Value) (tt : TypeId) (fz : Nat × Nat), W.heap[i]? = some (.cells c tt fz) → tt ≠ 3 → W'.heap[i]? = W.heap[i]? := fun i c tt fz hi htt => hg.block i (Array.getElem?_eq_some_iff.1 hi).1 (fun e => by
    obtain ⟨cc, fz2, hc⟩ := hu i e.symm
    rw [hi] at hc
    cases hc
    exact htt rfl)
  have hX : ∀ b c, W.heap[b]? = some (.cells c 9 (0, 0)) → wv.ownBlock ≠ some b → W'.heap[b]? = W.heap[b]? ∧ wv.ownBlock ≠ some b := fun b c hb hne => ⟨hkk b c _ _ hb (by decide), hne⟩
  obtain ⟨cN, hN⟩ := h.kLex
  refine ⟨(hkk N _ _ _ hN (by decide)).trans h.lex, ?_, ?_, ownsRow_same h.want fun g hg => ?_⟩
  · refine h.toks.keep (fun g hg => ?_) hX (fun g c fz hg hne => ⟨hkk g c _ _ hg (by decide), hne⟩)
    obtain ⟨c, fz, hc⟩ := h.kToks g hg
    exact hkk g c _ _ hc (by decide)
  · refine h.fod.keep (fun g hg => ?_) hX
    obtain ⟨c, fz, hc⟩ := h.fod.kind g hg
    exact hkk g c _ _ hc (by decide)
  · obtain ⟨c, fz, hc⟩ := Lib.ownsRow_kind h.want g hg
    exact hkk g c _ _ hc (by decide)

theorem Ho.pers {W : World} {B N : Nat} {L : LexSt} {ds : List (Int × List ByteArray)} {pend want : List ByteArray} {per kin : List Int} {wv pv kv : Value} (h : Ho W B N L ds pend want per kin wv pv kv) {W' : World} {v : Value} {z : Int} (hown : W'.ownsRow B 3 1 v (per.length + 1) (per.map (Value.int .i64) ++ [.int .i64 z])) (hg : W.grownBy W' pv.ownBlock)
    (hv : v.ownBlock = pv.ownBlock ∨ v.ownBlock = some W.heap.size) : Ho W' B N L ds pend want (per ++ [z]) kin wv v kv := by
  obtain ⟨h1, h2, h3, h4⟩ := h.ints (u := pv) (fun g hg => Lib.ownsRow_kind h.per g hg) hg
  refine ⟨h1, h2, h3, h4, ?_, ownsRow_same h.kin fun g hgk => ?_, fun g hg1 hg2 => ?_⟩
  · rw [List.length_append, List.map_append]
    exact hown
  · obtain ⟨c, fz, hc⟩ := Lib.ownsRow_kind h.kin g hgk
    exact hg.block g (Array.getElem?_eq_some_iff.1 hc).1 (fun e => h.ne g e.symm hgk)
  · rcases hv with hv | hv
    · exact h.ne g (hv.symm.trans hg1) hg2
    · obtain ⟨c, fz, hc⟩ := Lib.ownsRow_kind h.kin g hg2
      have := (Array.getElem?_eq_some_iff.1 hc).1
      rw [hv] at hg1
      cases hg1
      omega
theorem Ho.kins {W : World} {B N : Nat} {L : LexSt} {ds : List (Int × List ByteArray)} {pend want : List ByteArray} {per kin : List Int} {wv pv kv : Value} (h : Ho W B N L ds pend want per kin wv pv kv) {W' : World} {v : Value} {z : Int} (hown : W'.ownsRow B 3 1 v (kin.length + 1) (kin.map (Value.int .i64) ++ [.int .i64 z])) (hg : W.grownBy W' kv.ownBlock)
    (hv : v.ownBlock = kv.ownBlock ∨ v.ownBlock = some W.heap.size) : Ho W' B N L ds pend want per (kin ++ [z]) wv pv v := by
  obtain ⟨h1, h2, h3, h4⟩ := h.ints (u := kv) (fun g hg => Lib.ownsRow_kind h.kin g hg) hg
  refine ⟨h1, h2, h3, h4, ownsRow_same h.per fun g hgk => ?_, ?_, fun g hg1 hg2 => ?_⟩
  · obtain ⟨c, fz, hc⟩ := Lib.ownsRow_kind h.per g hgk
    exact hg.block g (Array.getElem?_eq_some_iff.1 hc).1 (fun e => h.ne g hgk e.symm)
  · rw [List.length_append, List.map_append]
    exact hown
  · rcases hv with hv | hv
    · exact h.ne g hg1 (hv.symm.trans hg2)
    · obtain ⟨c, fz, hc⟩ := Lib.ownsRow_kind h.per g hg1
      have := (Array.getElem?_eq_some_iff.1 hc).1
      rw [hv] at hg2
      cases hg2
      omega

/-- A token handed over. -/
theorem Ho.emit {W : World} {B N : Nat} {L : LexSt} {ds : List (Int × List ByteArray)} {pend want : List ByteArray} {per kin : List Int} {wv pv kv : Value} (h : Ho W B N L ds pend want per kin wv pv kv) {W' : World} {p fp : Option Addr} {fc : Nat} {k : Int} (hp : L.src = .pointer p) (hf : L.fod = .slice fp pend.length fc) {xs : List Value} {g cap M : Nat}
    (ho : W.ownsRow B 68 11 L.toks ds.length xs) (hx : ∀ i d, ds[i]? = some d → TElem W B wv.ownBlock L.fod.ownBlock xs d i) (hB : B ≤ W.heap.size)
    (hA : LexAt W' N { L with toks := .slice (some ⟨g, 0, none⟩) (ds.length + 1) cap, fod := .slice (some ⟨M, 0, none⟩) 0 0 })
    (hown : W'.ownsRow B 68 11 (.slice (some ⟨g, 0, none⟩) (ds.length + 1) cap) (ds.length + 1) (xs ++ tokCells L.fod ⟨#[]⟩ ⟨#[]⟩ ⟨#[]⟩ L.src L.im L.tl L.tc L.loc1 L.loc2 k))
    (hk : Kept (fun i => i = N ∨ L.toks.ownBlock = some i) W W') (hM : W.heap.size ≤ M) (hMg : W'.heap[M]? = some (.cells #[] 62 (0, 0))) :
    Ho W' B N { L with toks := .slice (some ⟨g, 0, none⟩) (ds.length + 1) cap, fod := .slice (some ⟨M, 0, none⟩) 0 0 } (ds ++ [(k, pend)]) [] want per kin wv pv kv := by
  obtain ⟨cN, hN⟩ := h.kLex
  have hkk : ∀ (i : Nat) (c : Array Value) (tt : TypeId) (fz : Nat × Nat), W.heap[i]? = some (.cells c tt fz) → tt ≠ 59 → tt ≠ 68 → W'.heap[i]? = W.heap[i]? := fun i c tt fz hi h1 h2 => hk.block i (Array.getElem?_eq_some_iff.1 hi).1 (fun e => by
    rcases e with e | e
    · subst e
      rw [hN] at hi
      cases hi
      exact h1 rfl
    · obtain ⟨cc, fz2, hc⟩ := h.kToks i e
      rw [hi] at hc
      cases hc
      exact h2 rfl)
  have hX : ∀ b c, W.heap[b]? = some (.cells c 9 (0, 0)) → wv.ownBlock ≠ some b → W'.heap[b]? = W.heap[b]? ∧ wv.ownBlock ≠ some b := fun b c hb hne => ⟨hkk b c _ _ hb (by decide) (by decide), hne⟩
  have hMne : ∀ (g : Nat) (c : Array Value) (fz : Nat × Nat), W.heap[g]? = some (.cells c 62 fz) → (Value.slice (some ⟨M, 0, none⟩) 0 0).ownBlock ≠ some g := fun g c fz hg e => by
    have := (Array.getElem?_eq_some_iff.1 hg).1
    simp [Value.ownBlock] at e
    omega
  have hFE : ∀ g, L.fod.ownBlock = some g → W'.heap[g]? = W.heap[g]? := fun g hg => by
    obtain ⟨c, fz, hc⟩ := h.fod.kind g hg
    exact hkk g c _ _ hc (by decide) (by decide)
  refine ⟨hA, ⟨xs ++ tokCells L.fod ⟨#[]⟩ ⟨#[]⟩ ⟨#[]⟩ L.src L.im L.tl L.tc L.loc1 L.loc2 k, ?_, fun i d hd => ?_⟩, ⟨[], ?_, fun j hj => absurd hj (by simp)⟩, ownsRow_same h.want fun g hg => ?_, ownsRow_same h.per fun g hg => ?_, ownsRow_same h.kin fun g hg => ?_, h.ne⟩
  · rw [List.length_append]
    exact hown
  · by_cases hi : i < ds.length
    · rw [List.getElem?_append_left hi] at hd
      obtain ⟨fp2, fc2, sp, im, l1, c1, l2, c2, h1, h2, h3⟩ := hx i d hd
      refine ⟨fp2, fc2, sp, im, l1, c1, l2, c2, fun r hr => ?_, h2.keep (fun g hg => ?_) hX, fun g hg => ?_⟩
      · rw [List.getElem?_append_left (by have := ho.1; omega)]
        exact h1 r hr
      · obtain ⟨c, fz, hc⟩ := h2.kind g hg
        exact hkk g c _ _ hc (by decide) (by decide)
      · obtain ⟨c, fz, hc⟩ := h2.kind g hg
        exact hMne g c fz hc
    · have hi2 : i < (ds ++ [(k, pend)]).length := (List.getElem?_eq_some_iff.1 hd).1
      rw [List.length_append, List.length_singleton] at hi2
      obtain rfl : i = ds.length := by omega
      rw [List.getElem?_append_right (Nat.le_refl _), Nat.sub_self] at hd
      cases hd
      refine ⟨fp, fc, p, L.im, L.tl, L.tc, L.loc1, L.loc2, fun r hr => ?_, ?_, fun g hg => ?_⟩
      · rw [List.getElem?_append_right (by have := ho.1; omega), ho.1, Nat.add_sub_cancel_left, hp, hf]
      · rw [← hf]
        exact h.fod.keep hFE hX
      · rw [← hf] at hg
        obtain ⟨c, fz, hc⟩ := h.fod.kind g hg
        exact hMne g c fz hc
  · exact ⟨rfl, .inr ⟨M, 0, #[], rfl, by omega, hMg, Nat.le_refl _, by unfold maxLen; omega, rfl, rfl⟩⟩
  · obtain ⟨c, fz, hc⟩ := Lib.ownsRow_kind h.want g hg
    exact hkk g c _ _ hc (by decide) (by decide)
  · obtain ⟨c, fz, hc⟩ := Lib.ownsRow_kind h.per g hg
    exact hkk g c _ _ hc (by decide) (by decide)
  · obtain ⟨c, fz, hc⟩ := Lib.ownsRow_kind h.kin g hg
    exact hkk g c _ _ hc (by decide) (by decide)

end Go.Proofs.YtkciiihffnimpaaFmt
