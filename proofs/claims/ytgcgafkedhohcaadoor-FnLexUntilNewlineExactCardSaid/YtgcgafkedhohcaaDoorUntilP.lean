/-
  What lexUntilNewline hands back of well-formed UTF-8, told by bytes. Plain laws: no program is walked here.
-/
import Derived.Test.YtgcgafkedhohcaaDoorUntil
import Derived.Test.YtgcgafkedhohcaaDoorValid
namespace Go.Proofs.YtgcgafkedhohcaaDoor
open Go

/-- From the start the m-th step stands at the m-th rune. -/
theorem steps_bpos {s : ByteArray} {L : LexSt} (hi : Inv s L) (h0 : L.bn = 0) : ∀ {m : Nat}, UTo s L m → (L.steps m).bn = bpos s m
  | 0, _ => h0
  | m + 1, h => by
    have hm : UTo s L m := ⟨fun i hi' => h.run i (by omega), by
      have := (steps_far hi m).1
      have hlt := (h.run m (by omega)).1
      omega⟩
    have ih := steps_bpos hi h0 hm
    have hlt := (h.run m (by omega)).1
    have e := (hi.steps m).inp
    show (L.steps m).step.bn = _
    rw [step_in (by rw [e]; exact hlt), e, ih, bpos_next (by rw [← ih]; exact hlt)]

theorem take_more (l : List UInt8) (p k : Nat) : l.take (p + k) = l.take p ++ (l.drop p).take k := List.take_add

theorem ubuf_valid {s : ByteArray} {L : LexSt} (hv : ValidU s) (hi : Inv s L) (h0 : L.bn = 0) : ∀ {m : Nat}, UTo s L m → ubuf L m = s.data.toList.take (bpos s m)
  | 0, _ => rfl
  | m + 1, h => by
    have hm : UTo s L m := ⟨fun i hi' => h.run i (by omega), by
      have := (steps_far hi m).1
      have hlt := (h.run m (by omega)).1
      omega⟩
    have ih := ubuf_valid hv hi h0 hm
    have hb := steps_bpos hi h0 hm
    have hlt := (h.run m (by omega)).1
    rw [hb] at hlt
    have e := (hi.steps m).inp
    have hr : (L.steps m).rune = ((Utf8.decode s (bpos s m)).1 : Int) := by
      rw [LexSt.rune_in (by rw [e, hb]; exact hlt), e, hb]
    show ubuf L m ++ Lib.encodeRune (L.steps m).rune = _
    rw [ih, hr, enc_good s _ hlt (hv m hlt), bpos_next hlt, take_more]

/-- No byte up to where the text stops is a newline. -/
theorem no_nl {s : ByteArray} {L : LexSt} (hi : Inv s L) : ∀ {m : Nat}, UTo s L m → ∀ i, L.bn ≤ i → i < (L.steps m).bn → byteAt s i ≠ 10
  | 0, _ => fun i h1 h2 => absurd h1 (by have : (L.steps 0).bn = L.bn := rfl; omega)
  | m + 1, h => by
    have hlt := (h.run m (by omega)).1
    have hm : UTo s L m := ⟨fun i hi' => h.run i (by omega), by
      have := (steps_far hi m).1
      omega⟩
    have ih := no_nl hi hm
    have e := (hi.steps m).inp
    have hst : (L.steps (m + 1)).bn = (L.steps m).bn + (Utf8.decode s (L.steps m).bn).2 := by
      show (L.steps m).step.bn = _
      rw [step_in (by rw [e]; exact hlt), e]
    have hr := (h.run m (by omega)).2
    rw [LexSt.rune_in (by rw [e]; exact hlt), e] at hr
    intro i h1 h2
    by_cases him : i < (L.steps m).bn
    · exact ih i h1 him
    · by_cases hl : byteAt s (L.steps m).bn < 128
      · rw [hst, decode_low s _ hlt hl] at h2
        rw [decode_low s _ hlt hl] at hr
        obtain rfl : i = (L.steps m).bn := by omega
        intro e1
        exact hr (by omega)
      · have := (decode_hi s _ hlt (by omega)).2 (i - (L.steps m).bn) (by omega)
        rw [show (L.steps m).bn + (i - (L.steps m).bn) = i by omega] at this
        omega

/-- Behind the cut lie blanks alone, and the byte ahead of the cut is none. -/
theorem trim_ok {s : ByteArray} {L : LexSt} (hv : ValidU s) (hi : Inv s L) (h0 : L.bn = 0) : ∀ {m : Nat}, UTo s L m →
    ulast L m ≤ bpos s m ∧ (∀ i, ulast L m ≤ i → i < bpos s m → isHws (byteAt s i) = true) ∧ (ulast L m = 0 ∨ isHws (byteAt s (ulast L m - 1)) = false)
  | 0, _ => ⟨Nat.le_refl _, fun i h1 h2 => absurd h2 (by show ¬ i < 0; omega), .inl rfl⟩
  | m + 1, h => by
    have hlt := (h.run m (by omega)).1
    have hm : UTo s L m := ⟨fun i hi' => h.run i (by omega), by
      have := (steps_far hi m).1
      omega⟩
    obtain ⟨i1, i2, i3⟩ := trim_ok hv hi h0 hm
    have hb := steps_bpos hi h0 hm
    rw [hb] at hlt
    have e := (hi.steps m).inp
    have hr : (L.steps m).rune = ((Utf8.decode s (bpos s m)).1 : Int) := by
      rw [LexSt.rune_in (by rw [e, hb]; exact hlt), e, hb]
    have hw := width_pos s _ hlt
    have hwl := width_le s _ hlt
    have hlen : (ubuf L (m + 1)).length = bpos s (m + 1) := by
      rw [ubuf_valid hv hi h0 h, List.length_take, Array.length_toList, bpos_next hlt]
      have : s.data.size = s.size := rfl
      omega
    unfold ulast
    rw [hr, hlen, bpos_next hlt]
    by_cases hl : byteAt s (bpos s m) < 128
    · rw [decode_low s _ hlt hl]
      dsimp only
      cases hh : isHws ((byteAt s (bpos s m) : Nat) : Int)
      · rw [if_neg (by simp)]
        refine ⟨Nat.le_refl _, fun i a b => absurd a (by omega), .inr ?_⟩
        rw [Nat.add_sub_cancel]
        exact hh
      · rw [if_pos rfl]
        refine ⟨by omega, fun i a b => ?_, i3⟩
        by_cases hib : i < bpos s m
        · exact i2 i a hib
        · obtain rfl : i = bpos s m := by omega
          exact hh
    · obtain ⟨d1, d2⟩ := decode_hi s _ hlt (by omega)
      have hno : ∀ b : Nat, 128 ≤ b → isHws (b : Int) = false := fun b hb' => by
        unfold isHws
        simp
        omega
      rw [if_neg (by rw [hno _ d1]; simp)]
      refine ⟨Nat.le_refl _, fun i a b => absurd a (by omega), .inr ?_⟩
      have := d2 ((Utf8.decode s (bpos s m)).2 - 1) (by omega)
      rw [show bpos s m + (Utf8.decode s (bpos s m)).2 - 1 = bpos s m + ((Utf8.decode s (bpos s m)).2 - 1) by omega]
      exact hno _ this

/-- Just behind the last newline among k bytes from p, as a distance. -/
def lq (s : ByteArray) (p : Nat) : Nat → Nat
  | 0 => 0
  | k + 1 => if byteAt s (p + k) = 10 then k + 1 else lq s p k
theorem lq_le (s : ByteArray) (p : Nat) : ∀ k, lq s p k ≤ k
  | 0 => Nat.le_refl _
  | k + 1 => by have := lq_le s p k; unfold lq; split <;> omega
theorem lq_behind (s : ByteArray) (p : Nat) : ∀ k i, lq s p k ≤ i → i < k → byteAt s (p + i) ≠ 10
  | 0, i, _, h => absurd h (by omega)
  | k + 1, i, h1, h2 => by
    unfold lq at h1
    by_cases hb : byteAt s (p + k) = 10
    · rw [if_pos hb] at h1
      omega
    · rw [if_neg hb] at h1
      by_cases hik : i < k
      · exact lq_behind s p k i h1 hik
      · obtain rfl : i = k := by omega
        exact hb
theorem lq_at (s : ByteArray) (p : Nat) : ∀ k, lq s p k = 0 ∨ byteAt s (p + (lq s p k - 1)) = 10
  | 0 => .inl rfl
  | k + 1 => by
    unfold lq
    by_cases hb : byteAt s (p + k) = 10
    · rw [if_pos hb]
      exact .inr (by rw [Nat.add_sub_cancel]; exact hb)
    · rw [if_neg hb]
      exact lq_at s p k
theorem ind_lq (s : ByteArray) (p k : Nat) : indTo s p (lq s p k) = 0 := by
  rcases lq_at s p k with h | h
  · rw [h]; rfl
  · have hp : lq s p k = 0 ∨ 0 < lq s p k := by omega
    rcases hp with h0 | h0
    · rw [h0]; rfl
    · obtain ⟨j, hj⟩ : ∃ j, lq s p k = j + 1 := ⟨lq s p k - 1, by omega⟩
      rw [hj] at h ⊢
      rw [Nat.add_sub_cancel] at h
      rw [indTo, if_pos h]
def wid (b : Nat) : Nat := if b = 32 then 1 else if b = 9 then 8 else 0
theorem ind_next (s : ByteArray) (p k : Nat) (h : byteAt s (p + k) ≠ 10) : indTo s p (k + 1) = indTo s p k + wid (byteAt s (p + k)) := by
  rw [indTo, if_neg h]
  unfold wid
  split
  · rfl
  · split <;> rfl

end Go.Proofs.YtgcgafkedhohcaaDoor
