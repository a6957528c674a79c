/-
  Escapes, with no program in sight: what a text's escapes want, by places; two accepted texts make an accepted one; a lone backslash at the end is refused.
-/
import Derived.Test.YtgdlfcgboghadaaFmtByte
import Derived.Test.YtgdlfcgboghadaaFmtBsrcA
namespace Go.Proofs.YtgdlfcgboghadaaFmt
open Go

def hv (b : Nat) : Option Nat := if 48 ≤ b ∧ b ≤ 57 then some (b - 48) else if 97 ≤ b ∧ b ≤ 102 then some (b - 87) else if 65 ≤ b ∧ b ≤ 70 then some (b - 55) else none
theorem hv_lt {b v : Nat} (h : hv b = some v) : v < 16 := by
  unfold hv at h
  split at h
  · injection h with h; omega
  · split at h
    · injection h with h; omega
    · split at h
      · injection h with h; omega
      · cases h
/-- Four hexadecimal digits at place i. -/
def h4 (s : ByteArray) (i : Nat) : Option Nat :=
  match hv (byteAt s i), hv (byteAt s (i + 1)), hv (byteAt s (i + 2)), hv (byteAt s (i + 3)) with
  | some a, some b, some c, some d => some (((a * 16 + b) * 16 + c) * 16 + d)
  | _, _, _, _ => none
def simpleEsc (c : Nat) : Bool := c == 34 || c == 39 || c == 92 || c == 47 || c == 98 || c == 102 || c == 110 || c == 114 || c == 116
/-- How many bytes the piece at place i takes; 0: it is refused. -/
def escAt (s : ByteArray) (i : Nat) : Nat :=
  if byteAt s i ≠ 92 then 1
  else if s.size ≤ i + 1 then 0
  else if simpleEsc (byteAt s (i + 1)) = true then 2
  else if byteAt s (i + 1) ≠ 117 then 0
  else if s.size < i + 6 then 0
  else match h4 s (i + 2) with
    | none => 0
    | some v => if 55296 ≤ v ∧ v < 57344 then (if s.size < i + 12 then 0 else if byteAt s (i + 6) ≠ 92 ∨ byteAt s (i + 7) ≠ 117 then 0 else match h4 s (i + 8) with | none => 0 | some _ => 12) else 6
def okFrom (s : ByteArray) : Nat → Nat → Bool
  | 0, i => decide (s.size ≤ i)
  | f + 1, i => if s.size ≤ i then true else if escAt s i = 0 then false else okFrom s f (i + escAt s i)
/-- Every escape of the text is well formed. -/
def okEsc (s : ByteArray) : Bool := okFrom s s.size 0

theorem escAt_fit {s : ByteArray} {i : Nat} (hi : i < s.size) : i + escAt s i ≤ s.size := by
  unfold escAt
  split
  · omega
  split
  · omega
  split
  · omega
  split
  · omega
  split
  · omega
  split
  · omega
  split
  · split
    · omega
    split
    · omega
    split <;> omega
  · omega
/-- The fuel does not count. -/
theorem okFrom_fuel (s : ByteArray) : ∀ (f g i : Nat), s.size ≤ i + f → s.size ≤ i + g → okFrom s f i = okFrom s g i
  | 0, 0, i, _, _ => rfl
  | 0, g + 1, i, h, _ => by
    unfold okFrom
    rw [if_pos (by omega), decide_eq_true (by omega)]
  | f + 1, 0, i, _, h => by
    unfold okFrom
    rw [if_pos (by omega), decide_eq_true (by omega)]
  | f + 1, g + 1, i, h1, h2 => by
    unfold okFrom
    by_cases h : s.size ≤ i
    · rw [if_pos h, if_pos h]
    · rw [if_neg h, if_neg h]
      by_cases h0 : escAt s i = 0
      · rw [if_pos h0, if_pos h0]
      · rw [if_neg h0, if_neg h0]
        exact okFrom_fuel s f g _ (by omega) (by omega)
/-- From place i on. -/
def okAt (s : ByteArray) (i : Nat) : Bool := okFrom s s.size i
theorem okAt_end {s : ByteArray} {i : Nat} (h : s.size ≤ i) : okAt s i = true := by
  unfold okAt
  cases s.size with
  | zero => unfold okFrom; exact decide_eq_true (by omega)
  | succ n => unfold okFrom; rw [if_pos (by omega)]
theorem okAt_step {s : ByteArray} {i : Nat} (h : i < s.size) : okAt s i = if escAt s i = 0 then false else okAt s (i + escAt s i) := by
  unfold okAt
  rw [okFrom_fuel s s.size (s.size + 1) i (by omega) (by omega)]
  conv => lhs; unfold okFrom
  rw [if_neg (by omega)]

theorem byteAt_get (s : ByteArray) (i : Nat) (h : i < s.size) : byteAt s i = (s[i]'h).toNat := (byte_of_get s i h).symm
theorem byte_left (s t : ByteArray) (i : Nat) (h : i < s.size) : byteAt (s ++ t) i = byteAt s i := by
  rw [byteAt_get _ i (by rw [ByteArray.size_append]; omega), byteAt_get s i h, ByteArray.getElem_append_left h]
theorem byte_right (s t : ByteArray) (i : Nat) (h : i < t.size) : byteAt (s ++ t) (s.size + i) = byteAt t i := by
  rw [byteAt_get _ (s.size + i) (by rw [ByteArray.size_append]; omega), byteAt_get t i h, ByteArray.getElem_append_right (by omega)]
  congr 2
  omega

theorem escAt_left {s t : ByteArray} {i : Nat} (hi : i < s.size) (h : escAt s i ≠ 0) : escAt (s ++ t) i = escAt s i := by
  have hz : (s ++ t).size = s.size + t.size := ByteArray.size_append
  unfold escAt at h ⊢
  rw [byte_left s t i hi]
  by_cases h1 : byteAt s i ≠ 92
  · simp only [if_pos h1]
  simp only [if_neg h1] at h ⊢
  by_cases h2 : s.size ≤ i + 1
  · exact absurd (by simp only [if_pos h2]) h
  have h2' : ¬ (s ++ t).size ≤ i + 1 := by omega
  simp only [if_neg h2, if_neg h2'] at h ⊢
  rw [byte_left s t (i + 1) (by omega)]
  by_cases h3 : simpleEsc (byteAt s (i + 1)) = true
  · simp only [if_pos h3]
  simp only [if_neg h3] at h ⊢
  by_cases h4' : byteAt s (i + 1) ≠ 117
  · exact absurd (by simp only [if_pos h4']) h
  simp only [if_neg h4'] at h ⊢
  by_cases h5 : s.size < i + 6
  · exact absurd (by simp only [if_pos h5]) h
  have h5' : ¬ (s ++ t).size < i + 6 := by omega
  simp only [if_neg h5, if_neg h5'] at h ⊢
  have hh : ∀ q, q + 4 ≤ s.size → h4 (s ++ t) q = h4 s q := fun q hq => by
    unfold h4
    rw [byte_left s t q (by omega), byte_left s t (q + 1) (by omega), byte_left s t (q + 2) (by omega), byte_left s t (q + 3) (by omega)]
  rw [hh (i + 2) (by omega)]
  cases hx : h4 s (i + 2) with
  | none =>
    rw [hx] at h
  | some v =>
    rw [hx] at h
    simp only at h ⊢
    by_cases h6 : 55296 ≤ v ∧ v < 57344
    · simp only [if_pos h6] at h ⊢
      by_cases h7 : s.size < i + 12
      · exact absurd (by simp only [if_pos h7]) h
      have h7' : ¬ (s ++ t).size < i + 12 := by omega
      simp only [if_neg h7, if_neg h7']
      rw [byte_left s t (i + 6) (by omega), byte_left s t (i + 7) (by omega), hh (i + 8) (by omega)]
    · simp only [if_neg h6]
theorem escAt_right {s t : ByteArray} {i : Nat} (hi : i < t.size) : escAt (s ++ t) (s.size + i) = escAt t i := by
  have hz : (s ++ t).size = s.size + t.size := ByteArray.size_append
  have hb : ∀ j, i + j < t.size → byteAt (s ++ t) (s.size + i + j) = byteAt t (i + j) := fun j hj => by
    rw [Nat.add_assoc]
    exact byte_right s t (i + j) hj
  have hh : ∀ j, i + j + 4 ≤ t.size → h4 (s ++ t) (s.size + i + j) = h4 t (i + j) := fun j hj => by
    unfold h4
    rw [hb j (by omega), Nat.add_assoc (s.size + i) j 1, hb (j + 1) (by omega), Nat.add_assoc (s.size + i) j 2, hb (j + 2) (by omega), Nat.add_assoc (s.size + i) j 3, hb (j + 3) (by omega)]
    rfl
  unfold escAt
  have hb0 := hb 0 (by omega)
  rw [Nat.add_zero, Nat.add_zero] at hb0
  rw [hb0]
  by_cases h1 : byteAt t i ≠ 92
  · rw [if_pos h1, if_pos h1]
  rw [if_neg h1, if_neg h1]
  by_cases h2 : t.size ≤ i + 1
  · rw [if_pos h2, if_pos (by omega)]
  rw [if_neg h2, if_neg (by omega), hb 1 (by omega)]
  by_cases h3 : simpleEsc (byteAt t (i + 1)) = true
  · rw [if_pos h3, if_pos h3]
  rw [if_neg h3, if_neg h3]
  by_cases h4' : byteAt t (i + 1) ≠ 117
  · rw [if_pos h4', if_pos h4']
  rw [if_neg h4', if_neg h4']
  by_cases h5 : t.size < i + 6
  · rw [if_pos h5, if_pos (by omega)]
  rw [if_neg h5, if_neg (by omega), hh 2 (by omega)]
  cases hx : h4 t (i + 2) with
  | none => rfl
  | some v =>
    simp only
    by_cases h6 : 55296 ≤ v ∧ v < 57344
    · rw [if_pos h6, if_pos h6]
      by_cases h7 : t.size < i + 12
      · rw [if_pos h7, if_pos (by omega)]
      rw [if_neg h7, if_neg (by omega), hb 6 (by omega), hb 7 (by omega), hh 8 (by omega)]
    · rw [if_neg h6, if_neg h6]

/-- An accepted text is passed whole. -/
theorem ok_pass {s t : ByteArray} : ∀ (n i : Nat), s.size - i ≤ n → i ≤ s.size → okAt s i = true → okAt (s ++ t) i = okAt (s ++ t) s.size
  | 0, i, hn, hi, _ => by rw [show i = s.size by omega]
  | n + 1, i, hn, hi, h => by
    have hz : (s ++ t).size = s.size + t.size := ByteArray.size_append
    by_cases hlt : i < s.size
    · rw [okAt_step hlt] at h
      by_cases h0 : escAt s i = 0
      · rw [if_pos h0] at h
        cases h
      · rw [if_neg h0] at h
        have hf := escAt_fit hlt
        rw [okAt_step (by omega), escAt_left hlt h0, if_neg h0]
        exact ok_pass n _ (by omega) hf h
    · rw [show i = s.size by omega]
theorem ok_shift {s t : ByteArray} : ∀ (n i : Nat), t.size - i ≤ n → i ≤ t.size → okAt (s ++ t) (s.size + i) = okAt t i
  | 0, i, hn, hi => by
    have hz : (s ++ t).size = s.size + t.size := ByteArray.size_append
    rw [okAt_end (by omega), okAt_end (by omega)]
  | n + 1, i, hn, hi => by
    have hz : (s ++ t).size = s.size + t.size := ByteArray.size_append
    by_cases hlt : i < t.size
    · rw [okAt_step (by omega), okAt_step hlt, escAt_right hlt]
      by_cases h0 : escAt t i = 0
      · rw [if_pos h0, if_pos h0]
      · rw [if_neg h0, if_neg h0, Nat.add_assoc]
        exact ok_shift n _ (by omega) (escAt_fit hlt)
    · rw [okAt_end (by omega), okAt_end (by omega)]
theorem ok_append {s t : ByteArray} (hs : okAt s 0 = true) (ht : okAt t 0 = true) : okAt (s ++ t) 0 = true := by
  rw [ok_pass s.size 0 (by omega) (by omega) hs]
  have := ok_shift (s := s) (t := t) t.size 0 (by omega) (by omega)
  rw [Nat.add_zero] at this
  rw [this, ht]
theorem ok_slash {s t : ByteArray} (hs : okAt s 0 = true) (h1 : t.size = 1) (h2 : byteAt t 0 = 92) : okAt (s ++ t) 0 = false := by
  rw [ok_pass s.size 0 (by omega) (by omega) hs]
  have := ok_shift (s := s) (t := t) t.size 0 (by omega) (by omega)
  rw [Nat.add_zero] at this
  rw [this, okAt_step (by omega)]
  have e : escAt t 0 = 0 := by
    unfold escAt
    rw [if_neg (by omega), if_pos (by omega)]
  rw [if_pos e]

/-! ### one piece, by cases -/
theorem esc_trunc {s : ByteArray} {i : Nat} (h : byteAt s i = 92) (h1 : s.size ≤ i + 1) : escAt s i = 0 := by
  unfold escAt
  rw [if_neg (by omega), if_pos h1]
theorem esc_simple {s : ByteArray} {i : Nat} (h : byteAt s i = 92) (h1 : i + 1 < s.size) (h2 : simpleEsc (byteAt s (i + 1)) = true) : escAt s i = 2 := by
  unfold escAt
  rw [if_neg (by omega), if_neg (by omega), if_pos h2]
theorem esc_unknown {s : ByteArray} {i : Nat} (h : byteAt s i = 92) (h1 : i + 1 < s.size) (h2 : simpleEsc (byteAt s (i + 1)) = false) (h3 : byteAt s (i + 1) ≠ 117) : escAt s i = 0 := by
  unfold escAt
  rw [if_neg (by omega), if_neg (by omega), if_neg (by rw [h2]; decide), if_pos h3]
theorem esc_u {s : ByteArray} {i : Nat} (h : byteAt s i = 92) (h1 : i + 1 < s.size) (h3 : byteAt s (i + 1) = 117) : escAt s i = if s.size < i + 6 then 0
  else match h4 s (i + 2) with
    | none => 0
    | some v => if 55296 ≤ v ∧ v < 57344 then (if s.size < i + 12 then 0 else if byteAt s (i + 6) ≠ 92 ∨ byteAt s (i + 7) ≠ 117 then 0 else match h4 s (i + 8) with | none => 0 | some _ => 12) else 6 := by
  unfold escAt
  rw [if_neg (by omega), if_neg (by omega), if_neg (by rw [h3]; decide), if_neg (by omega)]
theorem ok_zero {s : ByteArray} {i : Nat} (h : i < s.size) (h0 : escAt s i = 0) : okAt s i = false := by rw [okAt_step h, if_pos h0]
theorem ok_next {s : ByteArray} {i n : Nat} (h : i < s.size) (h0 : escAt s i = n) (hn : n ≠ 0) : okAt s i = okAt s (i + n) := by rw [okAt_step h, h0, if_neg hn]
theorem ok_skip {s : ByteArray} : ∀ (k i : Nat), i + k ≤ s.size → (∀ j, j < k → byteAt s (i + j) ≠ 92) → okAt s i = okAt s (i + k)
  | 0, i, _, _ => rfl
  | k + 1, i, h, hk => by
    have e : escAt s i = 1 := by
      unfold escAt
      rw [if_pos (by have := hk 0 (by omega); rwa [Nat.add_zero] at this)]
    rw [ok_next (by omega) e (by omega), ok_skip k (i + 1) (by omega) (fun j hj => by have := hk (j + 1) (by omega); rwa [show i + (j + 1) = i + 1 + j by omega] at this)]
    congr 1
    omega
/-- A rune that is no backslash is passed whole. -/
theorem ok_rune {s : ByteArray} {i : Nat} (h : i < s.size) (hb : byteAt s i ≠ 92) : okAt s i = okAt s (i + (Utf8.decode s i).2) := by
  by_cases hl : byteAt s i < 128
  · rw [decode_low s i h hl]
    exact ok_skip 1 i (by omega) (fun j hj => by rw [show i + j = i by omega]; exact hb)
  · have hw := width_le s i h
    refine ok_skip _ i hw (fun j hj => ?_)
    have := (decode_hi s i h (by omega)).2 j hj
    omega
theorem rune_no92 {s : ByteArray} {i : Nat} (h : i < s.size) (hb : byteAt s i ≠ 92) : ¬ (Utf8.decode s i).1 = 92 := by
  by_cases hl : byteAt s i < 128
  · rw [decode_low s i h hl]
    exact hb
  · have := (decode_hi s i h (by omega)).1
    omega

end Go.Proofs.YtgdlfcgboghadaaFmt
