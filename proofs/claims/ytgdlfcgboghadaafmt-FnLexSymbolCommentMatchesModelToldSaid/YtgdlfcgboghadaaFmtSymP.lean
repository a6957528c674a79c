/-
  Comments, with no program in sight: where a line ends; where the closing mark first stands; the first of a comment's lines.
-/
import Derived.Test.YtgdlfcgboghadaaFmtUntil
import Derived.Test.YtgdlfcgboghadaaFmtSplit
import Derived.Test.YtgdlfcgboghadaaFmtRunesB
namespace Go.Proofs.YtgdlfcgboghadaaFmt
open Go

theorem no_nlC {s : ByteArray} {L : LexSt} (hi : Inv s L) : ∀ {m : Nat}, UTo s L m → ∀ i, L.bn ≤ i → i < (L.steps m).bn → byteAt s i ≠ 10
  | 0, _ => fun i h1 h2 => absurd h1 (by have : (L.steps 0).bn = L.bn := rfl; omega)
  | m + 1, h => by
    have hlt := (h.run m (by omega)).1
    have hm : UTo s L m := ⟨fun i hi' => h.run i (by omega), by
      have := (steps_far hi m).1
      omega⟩
    have ih := no_nlC hi hm
    have e := (hi.steps m).inp
    have hst : (L.steps (m + 1)).bn = (L.steps m).bn + (Utf8.decode s (L.steps m).bn).2 := by
      show (L.steps m).step.bn = _
      rw [step_in (by rw [e]; exact hlt), e]
    have hr := (h.run m (by omega)).2
    rw [LexSt.rune_in (by rw [e]; exact hlt), e] at hr
    intro i h1 h2
    by_cases him : i < (L.steps m).bn
    · exact ih i h1 him
    · by_cases hl : byteAt s (L.steps m).bn < 128
      · rw [hst, decode_low s _ hlt hl] at h2
        rw [decode_low s _ hlt hl] at hr
        obtain rfl : i = (L.steps m).bn := by omega
        intro e1
        exact hr (by omega)
      · have := (decode_hi s _ hlt (by omega)).2 (i - (L.steps m).bn) (by omega)
        rw [show (L.steps m).bn + (i - (L.steps m).bn) = i by omega] at this
        omega

theorem rune_byte {s : ByteArray} {L : LexSt} (hi : Inv s L) {c : Nat} (hc : c < 128) : L.rune = (c : Int) ↔ (L.bn < s.size ∧ byteAt s L.bn = c) := by
  have e := hi.inp
  by_cases hb : L.bn < s.size
  · rw [LexSt.rune_in (by rw [e]; exact hb), e]
    by_cases hl : byteAt s L.bn < 128
    · rw [decode_low s _ hb hl]
      constructor
      · intro h
        exact ⟨hb, by omega⟩
      · rintro ⟨_, h⟩
        omega
    · have := (decode_hi s _ hb (by omega)).1
      constructor
      · intro h
        omega
      · rintro ⟨_, h⟩
        omega
  · rw [LexSt.rune_end (by rw [e]; omega)]
    constructor
    · intro h
      omega
    · rintro ⟨h, _⟩
      omega
theorem rune_eof {s : ByteArray} {L : LexSt} (hi : Inv s L) (h : L.rune = -1) : L.bn = s.size := by
  have e := hi.inp
  have h1 := hi.le
  by_cases hb : L.bn < s.size
  · rw [LexSt.rune_in (by rw [e]; exact hb)] at h
    omega
  · omega
theorem rune_not_eof {s : ByteArray} {L : LexSt} (hi : Inv s L) (h : L.rune ≠ -1) : L.bn < s.size := by
  have e := hi.inp
  have := rune_some h
  rw [e] at this
  exact this
theorem step_bytes {s : ByteArray} {L : LexSt} (hi : Inv s L) (h : L.bn < s.size) : L.bn < L.step.bn ∧ (byteAt s L.bn < 128 → L.step.bn = L.bn + 1) ∧ ∀ i, L.bn ≤ i → i < L.step.bn → i = L.bn ∨ 128 ≤ byteAt s i := by
  have e := hi.inp
  have hst := step_in (L := L) (by rw [e]; exact h)
  rw [e] at hst
  have hw := width_pos s L.bn h
  refine ⟨by omega, fun hl => ?_, fun i h1 h2 => ?_⟩
  · rw [hst, decode_low s _ h hl]
  · by_cases hl : byteAt s L.bn < 128
    · rw [hst, decode_low s _ h hl] at h2
      exact .inl (by omega)
    · have := (decode_hi s _ h (by omega)).2 (i - L.bn) (by omega)
      rw [show L.bn + (i - L.bn) = i by omega] at this
      exact .inr this

theorem line_end {s : ByteArray} {L : LexSt} {m : Nat} (hi : Inv s L) (h : UTo s L m) (he : (L.steps m).rune = -1 ∨ (L.steps m).rune = 10) :
    (∀ i, L.bn ≤ i → i < (L.steps m).bn → byteAt s i ≠ 10) ∧ (L.steps m).bn ≤ s.size ∧ ((L.steps m).bn = s.size ∨ ((L.steps m).bn < s.size ∧ byteAt s (L.steps m).bn = 10)) := by
  refine ⟨no_nlC hi h, (hi.steps m).le, ?_⟩
  rcases he with he | he
  · exact .inl (rune_eof (hi.steps m) he)
  · exact .inr ((rune_byte (hi.steps m) (c := 10) (by omega)).1 he)

/-- Ahead of q, from byte 2 on, no closing mark stands. -/
def NoClose (s : ByteArray) (q : Nat) : Prop := ∀ p, 2 ≤ p → p < q → ¬ (byteAt s p = 42 ∧ p + 1 < s.size ∧ byteAt s (p + 1) = 47)
theorem NoClose.zero (s : ByteArray) : NoClose s 2 := fun p h1 h2 => by omega
theorem NoClose.next {s : ByteArray} {L : LexSt} (hi : Inv s L) (h : NoClose s L.bn) (hin : L.bn < s.size) (hne : ¬ (L.rune = 42 ∧ L.step.rune = 47)) : NoClose s L.step.bn := by
  obtain ⟨_, h2, h3⟩ := step_bytes hi hin
  intro p hp1 hp2 ⟨b1, b2, b3⟩
  by_cases hlt : p < L.bn
  · exact h p hp1 hlt ⟨b1, b2, b3⟩
  · rcases h3 p (by omega) hp2 with e | e
    · subst e
      have hs := h2 (by omega)
      exact hne ⟨(rune_byte hi (c := 42) (by omega)).2 ⟨hin, b1⟩, (rune_byte hi.step (c := 47) (by omega)).2 ⟨by omega, by rw [hs]; exact b3⟩⟩
    · omega
theorem closed {s : ByteArray} {L : LexSt} (hi : Inv s L) (h1 : L.rune = 42) (h2 : L.step.rune = 47) : L.bn + 1 < s.size ∧ byteAt s L.bn = 42 ∧ byteAt s (L.bn + 1) = 47 ∧ L.step.bn = L.bn + 1 ∧ L.step.step.bn = L.bn + 2 := by
  obtain ⟨a1, a2⟩ := (rune_byte hi (c := 42) (by omega)).1 h1
  have hs := (step_bytes hi a1).2.1 (by omega)
  obtain ⟨b1, b2⟩ := (rune_byte hi.step (c := 47) (by omega)).1 h2
  have ht := (step_bytes hi.step b1).2.1 (by omega)
  rw [hs] at b1 b2
  exact ⟨b1, a2, b2, hs, by omega⟩

/-! ### the first line of a block comment -/
theorem linesFrom_head (s : ByteArray) : ∀ (f pos : Nat) (cur : List UInt8), ∃ x rest, linesFrom s f pos cur = (cur ++ x) :: rest
  | 0, pos, cur => ⟨[10], [], by
    by_cases h : pos < s.size
    · simp [linesFrom]
    · exact linesFrom_end s 0 pos cur h⟩
  | f + 1, pos, cur => by
    by_cases h : pos < s.size
    · by_cases hn : (Utf8.decode s pos).1 = 10
      · exact ⟨_, _, linesFrom_nl s f pos cur h hn⟩
      · obtain ⟨x, rest, e⟩ := linesFrom_head s f (pos + (Utf8.decode s pos).2) (cur ++ Lib.encodeRune (Utf8.decode s pos).1)
        exact ⟨Lib.encodeRune (Utf8.decode s pos).1 ++ x, rest, by rw [linesFrom_other s f pos cur h hn, e, List.append_assoc]⟩
    · exact ⟨[10], [], linesFrom_end s (f + 1) pos cur h⟩
theorem enc47 : Lib.encodeRune (47 : Nat) = [47] := by decide
theorem srcLines_head {s : ByteArray} (h0 : 0 < s.size) (hb : byteAt s 0 = 47) : ∃ x rest, srcLines s = (47 :: x) :: rest := by
  unfold srcLines
  obtain ⟨n, hn⟩ : ∃ n, s.size = n + 1 := ⟨s.size - 1, by omega⟩
  have hd : Utf8.decode s 0 = (47, 1) := by rw [decode_low s 0 h0 (by omega), hb]
  rw [hn, linesFrom_other s n 0 [] h0 (by rw [hd]; decide), hd]
  obtain ⟨x, rest, e⟩ := linesFrom_head s n (0 + 1) ([] ++ Lib.encodeRune ((47 : Nat) : Int))
  refine ⟨x, rest, ?_⟩
  rw [e, enc47]
  rfl
theorem Pw.head {mg : Int} {l : List UInt8} : ∀ {as1 : List (List UInt8)} {bs1 : List ByteArray}, Pw mg as1 bs1 → ∀ {ls : List (List UInt8)}, as1 = l :: ls → ∃ o os, bs1 = o :: os ∧ StripOf mg l o := by
  intro as1 bs1 h
  induction h with
  | nil => intro ls e; cases e
  | @snoc ps qs a b h1 h2 ih =>
    intro ls e
    cases ps with
    | nil =>
      cases e
      cases qs with
      | nil => exact ⟨b, [], rfl, h2⟩
      | cons c cs => have := h1.len; simp at this
    | cons c cs =>
      cases e
      obtain ⟨o, os, rfl, h3⟩ := ih rfl
      exact ⟨o, os ++ [b], rfl, h3⟩
theorem strip_head {mg : Int} {x : List UInt8} {o : ByteArray} (h : StripOf mg (47 :: x) o) : ∃ y, o.data.toList = 47 :: y := by
  obtain ⟨c, hc, i, j, hst, rfl⟩ := h
  cases c with
  | nil => simp at hc
  | cons d ds =>
    have hd : d = 47 := by
      have := congrArg List.head? hc
      simpa using this.symm
    subst hd
    have hb : byteAt ⟨(47 :: ds).toArray⟩ 0 = 47 := by
      rw [list_byteAt (47 :: ds) 0 (by simp)]
      rfl
    have hsz : (⟨(47 :: ds).toArray⟩ : ByteArray).size = ds.length + 1 := by simp [ByteArray.size]
    obtain ⟨zs, hz⟩ : ∃ zs, runesOf ⟨(47 :: ds).toArray⟩ = 47 :: zs := by
      unfold runesOf
      rw [hsz, runesFrom, if_pos (by rw [hsz]; omega), decode_low _ 0 (by rw [hsz]; omega) (by omega), hb]
      exact ⟨_, rfl⟩
    rw [hz] at hst ⊢
    have hi : i = 0 := by
      rcases Nat.eq_zero_or_pos i with h | h
      · exact h
      · have := hst.lead 0 h
        simp [isHws] at this
    subst hi
    have hj : 0 < j := by
      rcases Nat.eq_zero_or_pos j with h | h
      · have := hst.trail 0 (by omega) (by simp)
        simp [isHws] at this
      · exact h
    obtain ⟨q, rfl⟩ : ∃ q, j = q + 1 := ⟨j - 1, by omega⟩
    rw [runesBytes_list, List.drop_zero, Nat.sub_zero, List.take_succ_cons, List.flatMap_cons]
    exact ⟨_, rfl⟩

end Go.Proofs.YtgdlfcgboghadaaFmt
