/-
  Lex: what each kind of token leaves.
-/
import Derived.Test.YthohpccmleodpaaFmtLxS
import Derived.Test.YthohpccmleodpaaFmtNumL
namespace Go.Proofs.YthohpccmleodpaaFmt
open Go Go.RowKit
namespace Lx

theorem LxSt.up {s : ByteArray} {w wr w' : World} {a : Nat} {L : LexSt} {ts : List Tok} {fn : Nat} (h : LxSt s w wr a L ts fn) (hb : Below wr.heap.size wr w') : LxSt s w w' a L ts fn := by
  obtain ⟨xs, hx, ht⟩ := h.toks
  obtain ⟨fxs, hf⟩ := h.fod
  have kr : ∀ {e : TypeId} {sz : Nat} {v : Value} {n : Nat} {ys : List Value}, wr.ownsRow w.heap.size e sz v n ys → w'.ownsRow w.heap.size e sz v n ys := fun h => ownsRow_same h fun g hg => by
    obtain ⟨c, fz, hc⟩ := Lib.ownsRow_kind h g hg
    exact hb.block g (Array.getElem?_eq_some_iff.1 hc).1
  exact ⟨(hb.block a h.here.lt).trans h.here, h.inv, h.src, ⟨xs, kr hx, ht⟩, ⟨fxs, kr hf⟩, h.below.trans (hb.mono h.below.size), h.age, h.pre, h.len⟩
theorem LxSt.reset {s : ByteArray} {w wr w' : World} {a : Nat} {L : LexSt} {ts : List Tok} {fn : Nat} (h : LxSt s w wr a L ts fn) (hl : LexAt w' a L.reset) (hg : wr.grownBy w' (some a)) : LxSt s w w' a L.reset ts fn :=
  h.move hg hl ⟨h.inv.inp, h.inv.le, h.inv.ln, h.inv.ls⟩ rfl rfl rfl h.pre h.len
theorem kept_next {a : Nat} {L : LexSt} {w1 w2 w3 : World} (hg : w1.grownBy w2 (some a)) (hk : Kept (fun i => i = a ∨ L.step.toks.ownBlock = some i) w2 w3) : Kept (fun i => i = a ∨ L.toks.ownBlock = some i) w1 w3 := by
  rw [(step_keeps L).2.2.2.2.1] at hk
  exact (Kept.ofGrown hg fun i _ e => .inl (by cases e; rfl)).trans hk
theorem own_grown {a B : Nat} {L : LexSt} {w1 w2 : World} {e : TypeId} {sz : Nat} {v : Value} {n : Nat} {xs : List Value} (h : w1.ownsRow B e sz v n xs) (ha : LexAt w1 a L) (he : e ≠ 68) (hg : w1.grownBy w2 (some a)) : w2.ownsRow B e sz v n xs :=
  ownsRow_same h fun g hg' => by
    obtain ⟨c, fz, hc⟩ := Lib.ownsRow_kind h g hg'
    exact hg.block g (Array.getElem?_eq_some_iff.1 hc).1 (fun e1 => own_ne h ha he (by rw [hg', ← e1]))
/-- Punctuation: next, then emitToken. -/
theorem LxSt.punct {s : ByteArray} {w w1 w2 w3 : World} {a : Nat} {L : LexSt} {ts : List Tok} {fn : Nat} {xs : List Value} {k : Int} {e : Ending} (h : LxSt s w w1 a L ts fn) (hx : w1.ownsRow w.heap.size 47 11 L.toks ts.length xs) (ht : TokList ts xs)
    (hlt : L.bn < s.size) (hst : L.step.bn = L.bn + 1) (hp : 0 ≤ punct (byteAt s L.bn)) (hk : k = punct (byteAt s L.bn)) (hg : w1.grownBy w2 (some a)) (he : EmittedTok w2 a L.step w.heap.size ts.length xs L.bn k e w3) :
    ∃ L', LxSt s w w3 a L' (ts ++ [(k, s.extract L.bn (L.bn + 1))]) 0 ∧ L'.bn = L.bn + 1 := by
  obtain ⟨_, g, cap, M, hl, ho, _, _, hkk, hM1, _, hM⟩ := he
  have hi := h.inv.step
  rw [hi.inp, hst] at ho
  refine ⟨_, h.emitted hx ht hl ⟨hi.inp, hi.le, hi.ln, hi.ls⟩ (step_keeps L).2.2.2.1 rfl rfl ho (kept_next hg hkk) (Nat.le_trans hg.size hM1) hM ?_ ?_, hst⟩
  · have := h.pre.step hlt (.pu hp)
    rw [← hk] at this
    show Pre s L.step.bn _
    rw [hst]
    exact this
  · show ts.length + 1 ≤ L.step.bn
    rw [hst]
    have := h.len
    omega
/-- The end's token. -/
theorem LxSt.eof {s : ByteArray} {w w1 w3 : World} {a : Nat} {L : LexSt} {ts : List Tok} {fn : Nat} {xs : List Value} {e : Ending} (h : LxSt s w w1 a L ts fn) (hx : w1.ownsRow w.heap.size 47 11 L.toks ts.length xs) (ht : TokList ts xs) (he : EmittedTok w1 a L w.heap.size ts.length xs L.bn 36 e w3) :
    ∃ g cap ys, w3.cell? ⟨a, 4, none⟩ = some (.slice (some ⟨g, 0, none⟩) (ts.length + 1) cap) ∧ w3.ownsRow w.heap.size 47 11 (.slice (some ⟨g, 0, none⟩) (ts.length + 1) cap) (ts.length + 1) ys ∧ TokList (ts ++ [(36, ⟨#[]⟩)]) ys ∧ Below w.heap.size w w3 := by
  obtain ⟨_, g, cap, M, hl, ho, _, _, hkk, _⟩ := he
  have e1 : L.inp.extract L.bn L.bn = ⟨#[]⟩ := by
    apply ByteArray.ext
    simp [ByteArray.data_extract]
  rw [e1] at ho
  refine ⟨g, cap, _, hl.cell 4, ho, ht.snoc hx.1 _ _ _ _ _ _ _ _ _ _ _, h.below.trans (hkk.below (fun i hi => ?_) h.below.size)⟩
  rcases hi with rfl | hi
  · exact h.age
  · exact own_age hx i hi
/-- An identifier. -/
theorem LxSt.ident {s : ByteArray} {w w1 w3 : World} {a : Nat} {L : LexSt} {ts : List Tok} {fn : Nat} {xs : List Value} {e : Ending} (hP : Plain s) (h : LxSt s w w1 a L ts fn) (hx : w1.ownsRow w.heap.size 47 11 L.toks ts.length xs) (ht : TokList ts xs)
    (hlt : L.bn < s.size) (hf : idF (byteAt s L.bn) = true) (he : IdPost w1 s a L w.heap.size ts.length xs L.bn e w3) :
    ∃ L' t, LxSt s w w3 a L' (ts ++ [t]) 0 ∧ L.bn < L'.bn := by
  obtain ⟨_, k, g, cap, M, hrun, hl, ho, hbn, _, hkk, hM1, _, hM⟩ := he
  have hi := h.inv.steps k
  have low : ∀ p, p < s.size → byteAt s p < 128 := fun p hp => by
    have h1 := hP p hp
    simp only [okB, Bool.or_eq_true] at h1
    rcases h1 with ((h1 | h1) | h1) | h1
    · have := isD_cases h1; omega
    · have := idF_cases h1; omega
    · have := isWs_cases' h1; omega
    · have := punct_cases (of_decide_eq_true h1); omega
  have hst : L.bn + k = s.size ∨ (L.bn + k < s.size ∧ idC (byteAt s (L.bn + k)) = false) := by
    rcases hrun.stop with e | ⟨e1, e2⟩
    · exact .inl e
    · rw [decode_low s _ e1 (low _ e1)] at e2
      exact .inr ⟨e1, e2⟩
  have hk : 0 < k := by
    cases k with
    | zero =>
      rcases hst with e | ⟨_, e⟩
      · omega
      · rw [Nat.add_zero, idC_iff.2 (.inl hf)] at e
        cases e
    | succ k => omega
  have hid : IdR s L.bn k := ⟨hk, hrun.fit, hrun.all, hst⟩
  refine ⟨_, _, h.emitted hx ht hl ⟨hi.inp, hi.le, hi.ln, hi.ls⟩ (steps_keeps L k).2.2.2.1 rfl rfl ho hkk hM1 hM ?_ ?_, ?_⟩
  · show Pre s (L.steps k).bn _
    rw [hbn]
    exact h.pre.step hlt (.id k hf hid)
  · show ts.length + 1 ≤ (L.steps k).bn
    rw [hbn]
    have := h.len
    omega
  · show L.bn < (L.steps k).bn
    omega
/-- A number. -/
theorem LxSt.num {s : ByteArray} {w w1 w3 : World} {a : Nat} {L : LexSt} {ts : List Tok} {fn : Nat} {xs : List Value} {e : Ending} (h : LxSt s w w1 a L ts fn) (hx : w1.ownsRow w.heap.size 47 11 L.toks ts.length xs) (ht : TokList ts xs)
    (hlt : L.bn < s.size) (hd : isD (byteAt s L.bn) = true) (he : NumOk w1 s a L w.heap.size ts.length xs e w3) :
    ∃ L' t, LxSt s w w3 a L' (ts ++ [t]) 0 ∧ L.bn < L'.bn := by
  obtain ⟨_, k, g, cap, M, hrun, hfit, hl, ho, hbn, _, hkk, hM1, _, hM⟩ := he
  have hi := h.inv.steps k
  have hk : 0 < k := by
    cases k with
    | zero =>
      exfalso
      have hc := isD_cases hd
      rw [drop_at s L.bn hlt] at hrun
      have hby := byte_of_get s L.bn hlt
      unfold numRun at hrun
      rw [hby] at hrun
      have e0 : numStep 0 (byteAt s L.bn : Int) = .on 1 ∨ numStep 0 (byteAt s L.bn : Int) = .on 2 := by
        unfold numStep
        by_cases h48 : (byteAt s L.bn : Int) = 48
        · left; simp [h48]
        · right; simp [h48]; omega
      rcases e0 with e0 | e0 <;> rw [e0] at hrun <;> have := (numRun_ge _ _ _ _ hrun).1 <;> omega
    | succ k => omega
  refine ⟨_, _, h.emitted hx ht hl ⟨hi.inp, hi.le, hi.ln, hi.ls⟩ (steps_keeps L k).2.2.2.1 rfl rfl ho hkk hM1 hM ?_ ?_, ?_⟩
  · show Pre s (L.steps k).bn _
    rw [hbn]
    exact h.pre.step hlt (.nu k hd hrun)
  · show ts.length + 1 ≤ (L.steps k).bn
    rw [hbn]
    have := h.len
    omega
  · show L.bn < (L.steps k).bn
    omega

end Lx
end Go.Proofs.YthohpccmleodpaaFmt
